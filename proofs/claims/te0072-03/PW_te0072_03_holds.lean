import PyProof.Rows.All
import Wide.All
import OpenK.AllK
import Wide.FinOn
import KE.KSortTup
import KE.KLam
import PyProof.AutoListH
import PyProof.MeetsSeq
import PyProof.ReprRoads
import PyProof.FString5
import KE.LcSums
import PyProof.ListStr
import PyProof.ListCopy
import PyProof.SetNew
import PyProof.WalkInts
import PyProof.TupleOfSeq
import PyProof.Rows.Tup
import PyProof.Rows.SetObj
import PyProof.EnumMake
import PyProof.RangeFor
import PyProof.DictItemsLoops
import PyProof.DictCompW
import PyProof.CompFree
import PyProof.WalksMore
import PyProof.StrWalks
import PyProof.DictWalks
import PyProof.CompUse
import KE.KNestM
import Lean
import PySem.Challenge.RW_te0072_03
set_option Elab.async false
set_option linter.all false
set_option maxRecDepth 100000
set_option maxHeartbeats 0
set_option pp.deepTerms false
set_option pp.maxSteps 3000
set_option tactic.hygienic false
set_option backward.match.sparseCases false
set_option genSizeOf false
set_option bootstrap.genMatcherCode false
set_option genInjectivity false
open PySem renaming wpAny_bind→ff,Expr→PE,wpAny_pure→PF,Env→PM,call→P6,wpAny_call_entry→Qd,wpAny_holding→Qh,wpAny_callSpecial?_slot→Ql,sizeLine_eq→Qm,wpAny_mono→QC,wpAny_newObj_type→QF,mem_of_lookup→QM,wpAny_specialOf→Rc,wpAny_rule→Rg,wpAny_field→Rl,wpAny_dictEntries→Rn,wpAny_standAt→Rw,wpAny_dictEpoch→RN,wpAny_comprehension_free→RO,wpAny_typeNameOfWhole_itemiter→RU,wpAny_typeNameOfWhole_keyiter→R2,wpAny_seqItems→R3
open PySem.Str renaming ofString→sj
open Option.some renaming inj→PD
open Option renaming some→PG,bind_eq_some_iff→PV,map_eq_some_iff→Qk,bind_some→QS,isNone_iff_eq_none→QY
open List renaming length_append→PH,mem_singleton→PI,mem_cons_self→PJ,getElem?_eq_getElem→PK,mem_cons_of_mem→PL,mem_iff_getElem?→PR,mem_cons→PU,getElem?_eq_some_iff→PX,mem_of_getElem?→P7,length_map→P9,getD_eq_getElem?_getD→Qb,map_cons→Qe,lookup_cons→Qi,getElem?_map→Qt,nodup_cons→Qv,append_assoc→Qx,rec→QA,mem_map→QB,append_nil→QI,mem_append→QO,mem_append_left→QW,map_append→QZ,cons→Q0,prefix_refl→Q2,length_cons→Q3,mem_map_of_mem→Q5,size_toArray→Q6,mem_singleton_self→Q9,length_drop→Ra,casesOn→Rb,length_reverse→Rh,mem_append_right→Rj,all_eq_true→Rq,range→RA,replicate→RE,mem_range→RF,filterMap_cons→RM,length_take→RS,isEmpty_iff→RT,getElem?_drop→RX
open Nat renaming le_trans→PN,lt_of_le_of_lt→PY,lt_of_lt_of_le→PZ,lt_succ_self→P1,le_of_ble_eq_true→P4,le_refl→P5,beq→P8,le_of_eq→Qa,le_of_lt→Qg,exists_eq_add_of_le'→Qp,ne_of_lt→Qw,lt_succ_of_lt→Qy,le_add_right→Qz,lt_trans→QD,succ_le_succ→QQ,ble_eq→QR,blt→QT,add_sub_cancel_left→QU,zero_le→QX,le_add_left→Q1,not_lt_of_le→Q4,sub_eq_zero_of_le→Q7,eq_of_beq_eq_true→Q8,le_of_succ_le→Ri,exists_eq_add_of_le→Rt,min_eq_left→Rx,lt_of_succ_lt_succ→Ry,add_right_comm→RC,le_succ_of_le→RI,succ_pos→RK,beq_refl→RL,lt_irrefl→RP,add_le_add_left→RQ,le_succ→R5
open PySem.Heap renaming get?_push_of_some→PO,get?_push_size→PQ,SameBut→P0,get?_none_of_le→Qf,get?_update_self→QL,lt_size→Rk
open Bool renaming rec→PS,noConfusion→Qu,eq_iff_iff→QJ,and_eq_true→QP,false_eq_true→RB,and_eq_true_iff→RH,false_ne_true→R1
open Exists renaming elim→PW
open Pure renaming pure→P2
open PySem.NameKind renaming free→Qj,cell→Rp
open Array renaming getElem?_toList→Qn,length_toList→QG,getElem?_eq_some_iff→QV
open PySem.Heap.SameBut renaming update→Qo
open PySem.Value.ref renaming inj→Qq
open List.cons renaming inj→Qr
open PySem.Obj renaming mapSeq→Qs
open Int renaming natCast_nonneg→QE,ofNat_lt→Ro,not_lt→Ru,toNat_natCast→RJ,negSucc→RR
open PySem.Value renaming ref→QH,none→Rz
open Or renaming elim→QK
open Decidable renaming byCases→QN
open PySem.Calls renaming callWith_builtin→Rd
open PySem.F renaming slot_dict_keyiterator_next→Rv,slot_dict_get→RV,slot_dict_itemiterator_next→RY
open ForInStep renaming yield→RD
open PySem.Challenge renaming pw_te0072_03→RG
open Prod.mk renaming inj→RW
open PySem.Builtin.Tuple renaming tupleHashOf→RZ,tupleExact→R4
open PySem.Builtin.Slice renaming slicePlaces→R0
open PySem.PyData renaming keyHash→R6
namespace Internal
abbrev Ec:=PySem.Value->PySem.Shared->Prop
section
open PySem PySem.W
namespace K3
section
noncomputable abbrev pw:Program:=RG
noncomputable def v (s:String) (t:Nat):Value:=.str (sj s) t
noncomputable def e (P:Params) (s:String) (t:Nat) (x:Value):DictEntry:=⟨R6 P (sj s),v s t,x⟩
noncomputable def d (i:Nat):Stmt:=(pw.main.body[i]?).getD (.Pass default)
noncomputable def m (i j:Nat):Stmt:=match d i with
 |.ClassDef _ _ _ b .. =>(b[j]?).getD (.Pass default)|_=>.Pass default
noncomputable def f (s:Stmt) (qn:String) (df kd doc pm c ct:Value) (an:Option Addr):Data:=match s with
 |.FunctionDef n p b _ _ _ sc _ _ _=>.func {name:=n,qualname:=sj qn,params:=p,body:=.stmts b,scope:=sc,globals:=3,closure:=[],defaults:=df,kwdefaults:=kd,doc:=doc,pyModule:=pm,annotations:=an,code:=c,closureTuple:=ct}|_=>.plain
noncomputable def c (N Q:String) (t1 t2 t3:Nat) (L A B C:Int) (r1 r2:Addr) (x y z w:Value) (i:Int) (t4:Nat):Obj:=
 ⟨.type "code",none,.fields #[v N t1,v Q t2,v "/claim/cut.py" t3,.int L 0,.int A 0,.int B 0,.int C 0,.int 3 0,.ref r1,.bool true,.int 181 0,.ref r2,x,y,z,w,.int i 0,.int L 0,v "/claim/cut.py" t4],#[]⟩
noncomputable def g (s:Stmt) (qn:String) (df:Value) (c:Addr):Obj:=⟨.type "function",none,f s qn df .none .none (v "ply.yacc" 194) (.ref c) .none none,#[]⟩
noncomputable def ka:List Addr:=[1,3,20,21,38,39,45,46,54,55,61,62,68,69,75,76,82,83,89,90,96,97,99,100,117,118,124,125,131,132,134,135,145,146,171,172,178,179,185,186,192,193,194,200,201,202,208,209,215,216,222,223,229,230,236,237,243,244,250,251,257,258,264,265,266,272,273,279,280,282,283,293,294,300,301,317,318,326,332,333,339,340,346,347,353,354,360,361,367,368,374,375,381,382,388,389,391,395,396,398,402,403,409,410,416,417,423,424,426,427,437,438,444,445,451,452,458,459,465,466,470,471,477,478,484,485,489,490]
noncomputable def kf (P:Params):Frag:=[
(1,⟨.type "dict",none,.dict #[e P "builtins" 162 (.ref 4),e P "__main__" 163 (.ref 5)] 2,#[]⟩),
(3,⟨.type "dict",none,.dict #[e P "__name__" 165 (v "law_te0072_03" 910),e P "__doc__" 166 .none,e P "__package__" 167 .none,e P "__loader__" 168 (.builtin "__main__.__loader__#opaque"),e P "__spec__" 169 .none,e P "__annotations__" 170 (.ref 6),e P "__builtins__" 171 (.ref 4),e P "__file__" 173 (v "/claim/cut.py" 172),e P "__cached__" 174 .none,e P "_wall" 193 (.ref 21),e P "MAXINT" 197 (.int 9223372036854775807 196),e P "YaccError" 217 (.ref 31),e P "_is_identifier" 223 (.ref 39),e P "_IDENTIFIER" 225 (v "abcdefghijklmnopqrstuvwxyzABCDEFGHIJKLMNOPQRSTUVWXYZ0123456789_-" 224),e P "_literal" 232 (.ref 46),e P "Production" 325 (.ref 100),e P "LRItem" 376 (.ref 135),e P "rightmost_terminal" 385 (.ref 146),e P "GrammarError" 401 (.ref 156),e P "Grammar" 591 (.ref 283),e P "digraph" 604 (.ref 294),e P "traverse" 622 (.ref 301),e P "LALRError" 638 (.ref 311),e P "_place" 644 (.ref 318),e P "LRGeneratedTable" 909 (.ref 427),e P "_law_WAYS" 917 (.ref 438),e P "_law_next" 924 (.ref 445),e P "_law_weights" 934 (.ref 452),e P "_law_verdict" 942 (.ref 459),e P "_law_word" 953 (.ref 466),e P "_law_nest" 959 (.ref 471),e P "_law_read" 973 (.ref 478),e P "_law_run" 990 (.ref 485),e P "law" 996 (.ref 490)] 34,#[]⟩),
(20,c "_wall" "_wall" 187 188 189 1 1 0 0 15 16 .none (.ref 17) (.ref 18) (.ref 19) 191 192),
(21,⟨.type "function",none,f (d 0) "_wall" .none .none .none (v "__main__" 164) (.ref 20) .none none,#[]⟩),
(38,c "_is_identifier" "_is_identifier" 218 219 220 8 1 0 0 35 36 .none .none .none (.ref 37) 221 222),
(39,g (d 4) "_is_identifier" .none 38),
(45,c "_literal" "_literal" 226 227 228 11 1 0 0 40 41 .none (.ref 42) (.ref 43) (.ref 44) 230 231),
(46,g (d 6) "_literal" .none 45),
(54,⟨.type "tuple",none,.seq #[v "right" 249,.int 0 250] 0,#[]⟩),
(55,⟨.type "tuple",none,.seq #[.ref 54,.none,v "" 251,.int 0 252] 0,#[]⟩),
(61,c "__init__" "Production.__init__" 253 254 255 19 8 0 0 56 57 .none (.ref 58) (.ref 59) (.ref 60) 265 266),
(62,g (m 7 2) "Production.__init__" (.ref 55) 61),
(68,c "__str__" "Production.__str__" 268 269 270 40 1 0 0 63 64 .none (.ref 65) (.ref 66) (.ref 67) 272 273),
(69,g (m 7 3) "Production.__str__" .none 68),
(75,c "__repr__" "Production.__repr__" 275 276 277 43 1 0 0 70 71 .none (.ref 72) (.ref 73) (.ref 74) 279 280),
(76,g (m 7 4) "Production.__repr__" .none 75),
(82,c "__len__" "Production.__len__" 282 283 284 46 1 0 0 77 78 .none (.ref 79) (.ref 80) (.ref 81) 286 287),
(83,g (m 7 5) "Production.__len__" .none 82),
(89,c "__getitem__" "Production.__getitem__" 289 290 291 49 2 0 0 84 85 .none (.ref 86) (.ref 87) (.ref 88) 294 295),
(90,g (m 7 6) "Production.__getitem__" .none 89),
(96,c "bind" "Production.bind" 297 298 299 52 2 0 0 91 92 .none (.ref 93) (.ref 94) (.ref 95) 302 303),
(97,g (m 7 7) "Production.bind" .none 96),
(99,⟨.type "dict",none,.dict #[e P "__module__" 240 (v "ply.yacc" 194),e P "__firstlineno__" 244 (.int 15 243),e P "reduced" 246 (.int 0 245),e P "lr0_added" 248 (.int 0 247),e P "__init__" 267 (.ref 62),e P "__str__" 274 (.ref 69),e P "__repr__" 281 (.ref 76),e P "__len__" 288 (.ref 83),e P "__getitem__" 296 (.ref 90),e P "bind" 304 (.ref 97),e P "__static_attributes__" 318 (.ref 98),e P "__dict__" 320 (.ref 101),e P "__weakref__" 322 (.ref 102),e P "__doc__" 323 .none] 4,#[]⟩),
(100,⟨.type "type",none,.cls {name:="Production",bases:=[.type "object"],mro:=[.ref 100,.type "object"],ns:=99,qualname:="Production",hasDict:=true,subclasses:=[]},#[some (.ref 47),none,some (v "Production" 233),some (v "Production" 241),some (.builtin "object.__new__"),some (.bool true)]⟩),
(117,c "__init__" "LRItem.__init__" 338 339 340 56 3 0 0 112 113 .none (.ref 114) (.ref 115) (.ref 116) 344 345),
(118,g (m 8 0) "LRItem.__init__" .none 117),
(124,c "__str__" "LRItem.__str__" 347 348 349 67 1 0 0 119 120 .none (.ref 121) (.ref 122) (.ref 123) 352 353),
(125,g (m 8 1) "LRItem.__str__" .none 124),
(131,c "__repr__" "LRItem.__repr__" 355 356 357 74 1 0 0 126 127 .none (.ref 128) (.ref 129) (.ref 130) 359 360),
(132,g (m 8 2) "LRItem.__repr__" .none 131),
(134,⟨.type "dict",none,.dict #[e P "__module__" 333 (v "ply.yacc" 194),e P "__firstlineno__" 337 (.int 54 336),e P "__init__" 346 (.ref 118),e P "__str__" 354 (.ref 125),e P "__repr__" 361 (.ref 132),e P "__static_attributes__" 369 (.ref 133),e P "__dict__" 371 (.ref 136),e P "__weakref__" 373 (.ref 137),e P "__doc__" 374 .none] 4,#[]⟩),
(135,⟨.type "type",none,.cls {name:="LRItem",bases:=[.type "object"],mro:=[.ref 135,.type "object"],ns:=134,qualname:="LRItem",hasDict:=true,subclasses:=[]},#[some (.ref 105),none,some (v "LRItem" 326),some (v "LRItem" 334),some (.builtin "object.__new__"),some (.bool true)]⟩),
(145,c "rightmost_terminal" "rightmost_terminal" 377 378 379 76 2 0 0 140 141 .none (.ref 142) (.ref 143) (.ref 144) 383 384),
(146,g (d 9) "rightmost_terminal" .none 145),
(171,c "__init__" "Grammar.__init__" 414 415 416 87 2 0 0 166 167 .none (.ref 168) (.ref 169) (.ref 170) 420 421),
(172,g (m 11 0) "Grammar.__init__" .none 171),
(178,c "__len__" "Grammar.__len__" 423 424 425 102 1 0 0 173 174 .none (.ref 175) (.ref 176) (.ref 177) 427 428),
(179,g (m 11 1) "Grammar.__len__" .none 178),
(185,c "__getitem__" "Grammar.__getitem__" 430 431 432 105 2 0 0 180 181 .none (.ref 182) (.ref 183) (.ref 184) 435 436),
(186,g (m 11 2) "Grammar.__getitem__" .none 185),
(192,c "set_precedence" "Grammar.set_precedence" 438 439 440 108 4 0 0 187 188 .none (.ref 189) (.ref 190) (.ref 191) 445 446),
(193,g (m 11 3) "Grammar.set_precedence" .none 192),
(194,⟨.type "tuple",none,.seq #[.none,v "" 448,.int 0 449] 0,#[]⟩),
(200,c "add_production" "Grammar.add_production" 450 451 452 116 6 0 0 195 196 .none (.ref 197) (.ref 198) (.ref 199) 469 470),
(201,g (m 11 4) "Grammar.add_production" (.ref 194) 200),
(202,⟨.type "tuple",none,.seq #[.none] 0,#[]⟩),
(208,c "set_start" "Grammar.set_start" 472 473 474 174 2 0 0 203 204 .none (.ref 205) (.ref 206) (.ref 207) 477 478),
(209,g (m 11 5) "Grammar.set_start" (.ref 202) 208),
(215,c "find_unreachable" "Grammar.find_unreachable" 480 481 482 183 1 0 0 210 211 .none (.ref 212) (.ref 213) (.ref 214) 484 485),
(216,g (m 11 6) "Grammar.find_unreachable" .none 215),
(222,c "infinite_cycles" "Grammar.infinite_cycles" 487 488 489 186 1 0 0 217 218 .none (.ref 219) (.ref 220) (.ref 221) 491 492),
(223,g (m 11 7) "Grammar.infinite_cycles" .none 222),
(229,c "undefined_symbols" "Grammar.undefined_symbols" 494 495 496 189 1 0 0 224 225 .none (.ref 226) (.ref 227) (.ref 228) 498 499),
(230,g (m 11 8) "Grammar.undefined_symbols" .none 229),
(236,c "unused_terminals" "Grammar.unused_terminals" 501 502 503 192 1 0 0 231 232 .none (.ref 233) (.ref 234) (.ref 235) 505 506),
(237,g (m 11 9) "Grammar.unused_terminals" .none 236),
(243,c "unused_rules" "Grammar.unused_rules" 508 509 510 195 1 0 0 238 239 .none (.ref 240) (.ref 241) (.ref 242) 512 513),
(244,g (m 11 10) "Grammar.unused_rules" .none 243),
(250,c "unused_precedence" "Grammar.unused_precedence" 515 516 517 198 1 0 0 245 246 .none (.ref 247) (.ref 248) (.ref 249) 519 520),
(251,g (m 11 11) "Grammar.unused_precedence" .none 250),
(257,c "_first" "Grammar._first" 522 523 524 201 2 0 0 252 253 .none (.ref 254) (.ref 255) (.ref 256) 531 532),
(258,g (m 11 12) "Grammar._first" .none 257),
(264,c "compute_first" "Grammar.compute_first" 534 535 536 218 1 0 0 259 260 .none (.ref 261) (.ref 262) (.ref 263) 543 544),
(265,g (m 11 13) "Grammar.compute_first" .none 264),
(266,⟨.type "tuple",none,.seq #[.none] 0,#[]⟩),
(272,c "compute_follow" "Grammar.compute_follow" 546 547 548 238 2 0 0 267 268 .none (.ref 269) (.ref 270) (.ref 271) 559 560),
(273,g (m 11 14) "Grammar.compute_follow" (.ref 266) 272),
(279,c "build_lritems" "Grammar.build_lritems" 562 563 564 270 1 0 0 274 275 .none (.ref 276) (.ref 277) (.ref 278) 571 572),
(280,g (m 11 15) "Grammar.build_lritems" .none 279),
(282,⟨.type "dict",none,.dict #[e P "__module__" 409 (v "ply.yacc" 194),e P "__firstlineno__" 413 (.int 85 412),e P "__init__" 422 (.ref 172),e P "__len__" 429 (.ref 179),e P "__getitem__" 437 (.ref 186),e P "set_precedence" 447 (.ref 193),e P "add_production" 471 (.ref 201),e P "set_start" 479 (.ref 209),e P "find_unreachable" 486 (.ref 216),e P "infinite_cycles" 493 (.ref 223),e P "undefined_symbols" 500 (.ref 230),e P "unused_terminals" 507 (.ref 237),e P "unused_rules" 514 (.ref 244),e P "unused_precedence" 521 (.ref 251),e P "_first" 533 (.ref 258),e P "compute_first" 545 (.ref 265),e P "compute_follow" 561 (.ref 273),e P "build_lritems" 573 (.ref 280),e P "__static_attributes__" 584 (.ref 281),e P "__dict__" 586 (.ref 284),e P "__weakref__" 588 (.ref 285),e P "__doc__" 589 .none] 4,#[]⟩),
(283,⟨.type "type",none,.cls {name:="Grammar",bases:=[.type "object"],mro:=[.ref 283,.type "object"],ns:=282,qualname:="Grammar",hasDict:=true,subclasses:=[]},#[some (.ref 159),none,some (v "Grammar" 402),some (v "Grammar" 410),some (.builtin "object.__new__"),some (.bool true)]⟩),
(293,c "digraph" "digraph" 592 593 594 295 3 0 0 288 289 .none (.ref 290) (.ref 291) (.ref 292) 602 603),
(294,g (d 12) "digraph" .none 293),
(300,c "traverse" "traverse" 605 606 607 305 7 0 0 295 296 .none (.ref 297) (.ref 298) (.ref 299) 620 621),
(301,g (d 13) "traverse" .none 300),
(317,c "_place" "_place" 639 640 641 328 1 0 0 314 315 .none .none .none (.ref 316) 642 643),
(318,g (d 15) "_place" .none 317),
(326,⟨.type "tuple",none,.seq #[v "LALR" 657,.none] 0,#[]⟩),
(332,c "__init__" "LRGeneratedTable.__init__" 658 659 660 334 4 0 0 327 328 .none (.ref 329) (.ref 330) (.ref 331) 665 666),
(333,g (m 16 0) "LRGeneratedTable.__init__" (.ref 326) 332),
(339,c "lr0_closure" "LRGeneratedTable.lr0_closure" 668 669 670 355 2 0 0 334 335 .none (.ref 336) (.ref 337) (.ref 338) 677 678),
(340,g (m 16 1) "LRGeneratedTable.lr0_closure" .none 339),
(346,c "lr0_goto" "LRGeneratedTable.lr0_goto" 680 681 682 370 3 0 0 341 342 .none (.ref 343) (.ref 344) (.ref 345) 692 693),
(347,g (m 16 2) "LRGeneratedTable.lr0_goto" .none 346),
(353,c "lr0_items" "LRGeneratedTable.lr0_items" 695 696 697 398 1 0 0 348 349 .none (.ref 350) (.ref 351) (.ref 352) 707 708),
(354,g (m 16 3) "LRGeneratedTable.lr0_items" .none 353),
(360,c "compute_nullable_nonterminals" "LRGeneratedTable.compute_nullable_nonterminals" 710 711 712 420 1 0 0 355 356 .none (.ref 357) (.ref 358) (.ref 359) 718 719),
(361,g (m 16 4) "LRGeneratedTable.compute_nullable_nonterminals" .none 360),
(367,c "find_nonterminal_transitions" "LRGeneratedTable.find_nonterminal_transitions" 721 722 723 438 2 0 0 362 363 .none (.ref 364) (.ref 365) (.ref 366) 731 732),
(368,g (m 16 5) "LRGeneratedTable.find_nonterminal_transitions" .none 367),
(374,c "dr_relation" "LRGeneratedTable.dr_relation" 734 735 736 449 4 0 0 369 370 .none (.ref 371) (.ref 372) (.ref 373) 747 748),
(375,g (m 16 6) "LRGeneratedTable.dr_relation" .none 374),
(381,c "reads_relation" "LRGeneratedTable.reads_relation" 750 751 752 463 4 0 0 376 377 .none (.ref 378) (.ref 379) (.ref 380) 764 765),
(382,g (m 16 7) "LRGeneratedTable.reads_relation" .none 381),
(388,c "compute_lookback_includes" "LRGeneratedTable.compute_lookback_includes" 767 768 769 475 4 0 0 383 384 .none (.ref 385) (.ref 386) (.ref 387) 789 790),
(389,g (m 16 8) "LRGeneratedTable.compute_lookback_includes" .none 388),
(391,⟨.none,none,.fields #[],#[]⟩),
(395,c "compute_read_sets" "LRGeneratedTable.compute_read_sets" 792 793 794 523 4 0 0 390 391 .none (.ref 392) (.ref 393) (.ref 394) 805 806),
(396,g (m 16 9) "LRGeneratedTable.compute_read_sets" .none 395),
(398,⟨.none,none,.fields #[],#[]⟩),
(402,c "compute_follow_sets" "LRGeneratedTable.compute_follow_sets" 808 809 810 529 4 0 0 397 398 .none (.ref 399) (.ref 400) (.ref 401) 820 821),
(403,g (m 16 10) "LRGeneratedTable.compute_follow_sets" .none 402),
(409,c "add_lookaheads" "LRGeneratedTable.add_lookaheads" 823 824 825 535 3 0 0 404 405 .none (.ref 406) (.ref 407) (.ref 408) 835 836),
(410,g (m 16 11) "LRGeneratedTable.add_lookaheads" .none 409),
(416,c "add_lalr_lookaheads" "LRGeneratedTable.add_lalr_lookaheads" 838 839 840 545 2 0 0 411 412 .none (.ref 413) (.ref 414) (.ref 415) 849 850),
(417,g (m 16 12) "LRGeneratedTable.add_lalr_lookaheads" .none 416),
(423,c "lr_parse_table" "LRGeneratedTable.lr_parse_table" 852 853 854 553 1 0 0 418 419 .none (.ref 420) (.ref 421) (.ref 422) 886 887),
(424,g (m 16 13) "LRGeneratedTable.lr_parse_table" .none 423),
(426,⟨.type "dict",none,.dict #[e P "__module__" 652 (v "ply.yacc" 194),e P "__firstlineno__" 656 (.int 332 655),e P "__init__" 667 (.ref 333),e P "lr0_closure" 679 (.ref 340),e P "lr0_goto" 694 (.ref 347),e P "lr0_items" 709 (.ref 354),e P "compute_nullable_nonterminals" 720 (.ref 361),e P "find_nonterminal_transitions" 733 (.ref 368),e P "dr_relation" 749 (.ref 375),e P "reads_relation" 766 (.ref 382),e P "compute_lookback_includes" 791 (.ref 389),e P "compute_read_sets" 807 (.ref 396),e P "compute_follow_sets" 822 (.ref 403),e P "add_lookaheads" 837 (.ref 410),e P "add_lalr_lookaheads" 851 (.ref 417),e P "lr_parse_table" 888 (.ref 424),e P "__static_attributes__" 902 (.ref 425),e P "__dict__" 904 (.ref 428),e P "__weakref__" 906 (.ref 429),e P "__doc__" 907 .none] 4,#[]⟩),
(427,⟨.type "type",none,.cls {name:="LRGeneratedTable",bases:=[.type "object"],mro:=[.ref 427,.type "object"],ns:=426,qualname:="LRGeneratedTable",hasDict:=true,subclasses:=[]},#[some (.ref 319),none,some (v "LRGeneratedTable" 645),some (v "LRGeneratedTable" 653),some (.builtin "object.__new__"),some (.bool true)]⟩),
(437,c "_law_WAYS" "_law_WAYS" 912 913 914 656 0 0 0 432 433 .none (.ref 434) (.ref 435) (.ref 436) 915 916),
(438,⟨.type "function",none,f (d 18) "_law_WAYS" .none .none .none (v "law_te0072_03" 910) (.ref 437) .none none,#[]⟩),
(444,c "_law_next" "_law_next" 918 919 920 658 1 0 0 439 440 .none (.ref 441) (.ref 442) (.ref 443) 922 923),
(445,⟨.type "function",none,f (d 19) "_law_next" .none .none .none (v "law_te0072_03" 910) (.ref 444) .none none,#[]⟩),
(451,c "_law_weights" "_law_weights" 925 926 927 660 1 0 0 446 447 .none (.ref 448) (.ref 449) (.ref 450) 932 933),
(452,⟨.type "function",none,f (d 20) "_law_weights" .none .none .none (v "law_te0072_03" 910) (.ref 451) .none none,#[]⟩),
(458,c "_law_verdict" "_law_verdict" 935 936 937 667 2 0 0 453 454 .none (.ref 455) (.ref 456) (.ref 457) 940 941),
(459,⟨.type "function",none,f (d 21) "_law_verdict" .none .none .none (v "law_te0072_03" 910) (.ref 458) .none none,#[]⟩),
(465,c "_law_word" "_law_word" 943 944 945 671 2 0 0 460 461 .none (.ref 462) (.ref 463) (.ref 464) 951 952),
(466,⟨.type "function",none,f (d 22) "_law_word" .none .none .none (v "law_te0072_03" 910) (.ref 465) .none none,#[]⟩),
(470,c "_law_nest" "_law_nest" 954 955 956 679 2 0 0 467 468 .none .none .none (.ref 469) 957 958),
(471,⟨.type "function",none,f (d 23) "_law_nest" .none .none .none (v "law_te0072_03" 910) (.ref 470) .none none,#[]⟩),
(477,c "_law_read" "_law_read" 960 961 962 688 4 0 0 472 473 .none (.ref 474) (.ref 475) (.ref 476) 971 972),
(478,⟨.type "function",none,f (d 24) "_law_read" .none .none .none (v "law_te0072_03" 910) (.ref 477) .none none,#[]⟩),
(484,c "_law_run" "_law_run" 974 975 976 705 3 0 0 479 480 .none (.ref 481) (.ref 482) (.ref 483) 988 989),
(485,⟨.type "function",none,f (d 25) "_law_run" .none .none .none (v "law_te0072_03" 910) (.ref 484) .none none,#[]⟩),
(489,c "law" "law" 991 992 993 727 1 0 0 486 487 .none .none .none (.ref 488) 994 995),
(490,⟨.type "function",none,f (d 26) "law" .none .none .none (v "law_te0072_03" 910) (.ref 489) .none none,#[]⟩)]
end
end K3
end
section
open PySem PySem.W PySem.W.X PySem.W.ZRun PyProof.Rows
namespace K3
noncomputable def q:=view RG [0,2,3,4,5,6,7,8,9,10,11,12,13,14,15,16,18,19,20,21,22,23,24,25,26]
noncomputable def loose:List Str:=["Production","Grammar","LRGeneratedTable"]
theorem f1:LeftO RG q loose (λs=>xlAt q [] s&&recOk [] s) (obsZ ka) (valZ kf 491 997) 6932:=by intro w;unfold openEnds fencedOpening topFrom;rw[PySem.W.Fast.te14082659384304107361,PySem.W.Fast.te10274390034422433532,PySem.W.Fast.te14289696077712309145,PySem.W.Fast.te1435165496053646825,PySem.W.Fast.te14364793385576792824,PySem.W.Fast.te4187177175401517315];kernel_rfl
end K3
theorem LA.ws:OpenLaw.wellSaid PySem.Challenge.rw_te0072_03=true:=by decide+kernel
end
section
namespace Mp
set_option genInjectivity true in
inductive V where
 |none|bool (b:Bool)|int (i:Int)|str (s:List Nat)|av (vs:List V)|ar (n:Nat)|bc (c d:Nat)|qE (k:Nat) (du:List V)|cX (vs:List V)
inductive qF where|add|az|mul|vV|fdiv
inductive AH where|eq|ne|lt|le|gt|ge|is|t9|mF|dA
set_option genCtorIdx false in
inductive Tr (α:Type) where
 |nil|node (v:Option α) (l r:Tr α)
set_option genInjectivity true in
inductive O where
 |list (vs:List V)|dict (es:List (V×V))|set (ss:List (List Nat))|ns (fs:List (Nat×V))|view (es:List (V×V)) (d:V)|dq (bs:List (Bool×V))
structure St where
 t:Tr O
 n:Nat
inductive R (α:Type) where
 |ok (a:α) (s:St)|ez (k:Nat) (s:St)|no (why:Nat)
inductive It where
 |list (l i:Nat)|av (vs:List V)|str (s:List Nat)|range (i stop:Int)|fV (d i n:Nat)|items (d i n:Nat)|hI (it:It) (k:Int)
inductive Flow where
 |next|brk|cont|ret (v:V)
noncomputable abbrev Lo:=List (Nat×V)
section
noncomputable def dZ {α:Type} (a b:List α):List α:=@QA α (λzz=>List α) b (λx zz ih=>x::ih) a
noncomputable def F3 {α:Type} (a:List α):Nat->Nat:=@QA α (λzz=>Nat->Nat) (λn=>n) (λzz zz ih n=>ih (Nat.succ n)) a
noncomputable def len {α:Type} (a:List α):Nat:=F3 a 0
noncomputable def take {α:Type} (a:List α):Nat->List α:=@QA α (λzz=>Nat->List α) (λzz=>[]) (λx zz ih n=>PS (x::ih (n-1)) [] (P8 n 0)) a
noncomputable def drop {α:Type} (a:List α):Nat->List α:=@QA α (λzz=>Nat->List α) (λzz=>[]) (λx t ih n=>PS (ih (n-1)) (x::t) (P8 n 0)) a
noncomputable def F4 {α:Type} (a:List α):List α->List α:=@QA α (λzz=>List α->List α) (λr=>r) (λx zz ih r=>ih (x::r)) a
noncomputable def Fe {α:Type} (a:List α):List α:=F4 a []
noncomputable def aZ {α:Type} (l:List α):Nat->Option α:=@QA α (λzz=>Nat->Option α) (λzz=>.none) (λx zz ih i=>PS (ih (i-1)) (some x) (P8 i 0)) l
noncomputable def ua {α:Type} (a:α) (l:List α):Nat->List α:=@QA α (λzz=>Nat->List α) (λzz=>[]) (λx t ih i=>PS (x::ih (i-1)) (a::t) (P8 i 0)) l
noncomputable def hJ (x:List Nat):List Nat->Bool:=@QA Nat (λzz=>List Nat->Bool) (λy=>Rb y true (λzz zz=>false)) (λa zz ih y=>Rb y false (λc l=>PS false (ih l) (P8 a c))) x
noncomputable def kP (a b:Int):Bool:=Int.rec (λm=>Int.rec (λn=>P8 m n) (λzz=>false) b) (λm=>Int.rec (λzz=>false) (λn=>P8 m n) b) a
noncomputable def gM (a b:Int):Bool:=Int.rec (λm=>Int.rec (λn=>QT m n) (λzz=>false) b) (λm=>Int.rec (λzz=>true) (λn=>QT n m) b) a
noncomputable def jk (a:V):V->Option Bool:=@V.rec (λzz=>V->Option Bool) (λzz=>List V->Option Bool)
 (λb=>V.casesOn b (some true) (λzz=>.none) (λzz=>some false) (λzz=>some false) (λzz=>some false) (λzz=>.none) (λzz zz=>.none) (λzz zz=>.none) (λzz=>.none))
 (λx b=>.none)
 (λx b=>V.casesOn b (some false) (λzz=>.none) (λy=>some (kP x y)) (λzz=>some false) (λzz=>some false) (λzz=>.none) (λzz zz=>.none) (λzz zz=>.none) (λzz=>.none))
 (λx b=>V.casesOn b (some false) (λzz=>.none) (λzz=>some false) (λy=>some (hJ x y)) (λzz=>some false) (λzz=>.none) (λzz zz=>.none) (λzz zz=>.none) (λzz=>.none))
 (λzz ih b=>V.casesOn b (some false) (λzz=>.none) (λzz=>some false) (λzz=>some false) (λy=>ih y) (λzz=>.none) (λzz zz=>.none) (λzz zz=>.none) (λzz=>.none))
 (λzz zz=>.none) (λzz zz zz=>.none) (λzz zz zz zz=>.none) (λzz zz zz=>.none)
 (λy=>Rb y (some true) (λzz zz=>some false))
 (λzz zz ih1 ih2 y=>Rb y (some false) (λc l=>@Option.rec Bool (λzz=>Option Bool) .none (λr=>PS (some false) (ih2 l) r) (ih1 c)))
 a
noncomputable def bV (a:V):Nat->Bool:=@V.rec (λzz=>Nat->Bool) (λzz=>Nat->Bool)
 (λzz=>true) (λzz zz=>false) (λzz zz=>true) (λzz zz=>true) (λzz ih d=>PS (ih (d-1)) false (P8 d 0))
 (λzz zz=>false) (λzz zz zz=>false) (λzz zz zz zz=>false) (λzz zz zz=>false)
 (λzz=>true) (λzz zz ih1 ih2 d=>PS false (ih2 d) (ih1 d)) a
noncomputable def aA (a:V):Bool:=bV a 8
noncomputable def Tr.get {α:Type} (t:Tr α):Nat->Option α:=@Tr.rec α (λzz=>Nat->Option α) (λzz=>.none)
 (λv zz zz ihl ihr i=>PS (PS (ihr (i/2-1)) (ihl (i/2)) (P8 (i%2) 1)) v (P8 i 0)) t
noncomputable def Tr.bU {α:Type} (a:α):Nat->Tr α->Nat->Tr α:=λf=>@Nat.rec (λzz=>Tr α->Nat->Tr α) (λt zz=>t)
 (λzz ih t=>@Tr.casesOn α (λzz=>Nat->Tr α) t
  (λi=>PS (PS (.node .none .nil (ih .nil (i/2-1))) (.node .none (ih .nil (i/2)) .nil) (P8 (i%2) 1)) (.node (some a) .nil .nil) (P8 i 0))
  (λv l r i=>PS (PS (.node v l (ih r (i/2-1))) (.node v (ih l (i/2)) r) (P8 (i%2) 1)) (.node (some a) l r) (P8 i 0))) f
noncomputable def ao (l:List (Nat×V)) (x:Nat):Option V:=@QA _ (λzz=>Option V) .none (λp zz ih=>PS ih (some p.2) (P8 p.1 x)) l
noncomputable def a9 (l:List (Nat×V)) (x:Nat) (v:V):List (Nat×V):=@QA _ (λzz=>List (Nat×V)) [(x,v)] (λp t ih=>PS (p::ih) ((x,v)::t) (P8 p.1 x)) l
noncomputable def mG (x:Option Bool):Bool:=@Option.rec Bool (λzz=>Bool) false (λb=>b) x
noncomputable def aE (l:List (V×V)) (x:V):Option V:=@QA _ (λzz=>Option V) .none (λp zz ih=>PS ih (some p.2) (mG (jk p.1 x))) l
noncomputable def bD (l:List (V×V)) (x:V) (v:V):List (V×V):=@QA _ (λzz=>List (V×V)) [(x,v)] (λp t ih=>PS (p::ih) ((p.1,v)::t) (mG (jk p.1 x))) l
noncomputable def eU (l:List V) (d:Nat):Bool:=@QA _ (λzz=>Bool) true (λv zz ih=>PS false ih (bV v d)) l
noncomputable def xZ (x:V) (l:List V):Bool:=@QA _ (λzz=>Bool) false (λy zz ih=>PS ih true (mG (jk y x))) l
noncomputable def contains (x:V) (l:List V):Option Bool:=@PS (λzz=>Option Bool) .none (@PS (λzz=>Option Bool) .none (some (xZ x l)) (eU l 8)) (aA x)
noncomputable def rV (x:List Nat) (l:List (List Nat)):Bool:=@QA _ (λzz=>Bool) false (λy zz ih=>PS ih true (hJ y x)) l
noncomputable def R.bind {α β:Type} (x:R α) (f:α->St->R β):R β:=@R.rec α (λzz=>R β) (λa s=>f a s) (λk s=>.ez k s) (λw=>.no w) x
noncomputable def bb {α:Type} (x:R α):R α:=@R.rec α (λzz=>R α) (λa s=>.ok a s) (λzz zz=>.no 200) (λw=>.no w) x
noncomputable def St.get (s:St) (l:Nat):Option O:=s.t.get l
noncomputable def St.bU (s:St) (l:Nat) (o:O):St:=⟨Tr.bU o (l+1) s.t l,s.n⟩
noncomputable def St.new (s:St) (o:O):St:=⟨Tr.bU o (s.n+1) s.t s.n,s.n+1⟩
noncomputable def gN {α:Type} (w:Nat) (x:Option α) (s:St):R α:=@Option.rec α (λzz=>R α) (.no w) (λa=>.ok a s) x
noncomputable def aN (n:Nat):Bool:=QT n 100000
structure Ctx where
 n:Nat
 call:Nat->List V->St->R V
noncomputable abbrev Code (α:Type):=Ctx->Lo->St->R α
structure Cl where
 fW:List (Nat×V)
 d8:List (Nat×Nat)
 mH:Nat
structure Fn where
 params:List Nat
 defaults:List V
 body:Code (Flow×Lo)
structure G where
 cls:List Cl
 nC:List Nat
 iQ:List (Nat×V)
noncomputable def Ld {α:Type} (l:List α):Bool:=Rb l false (λzz zz=>true)
noncomputable def nD {α:Type} (l:List α):Option Bool:=@PS (λzz=>Option Bool) .none (some (Ld l)) (aN (len l))
noncomputable def aM (v:V) (s:St):Option Bool:=match v with
 |.none=>some false|.bool b=>some b|.int i=>some (Int.rec (λn=>PS true false (P8 n 0)) (λzz=>true) i)|.str x=>nD x|.av x=>nD x|.ar l=>match s.get l with
  |some (.list vs)=>nD vs|some (.dict es)=>nD es|_=>.none
 |.bc c _=>match P8 c 1 with
  |true=>some true|false=>.none
 |_=>.none
noncomputable def fh (n:Nat) (i:Int):Option Nat:=match i with
 |.ofNat k=>match QT k n with|true=>some k|false=>.none
 |.negSucc k=>match QT k n with|true=>some (n-1-k)|false=>.none
noncomputable def aV (n:Nat) (i:Int):Nat:=match i with
 |.ofNat k=>match Nat.ble k n with|true=>k|false=>n
 |.negSucc k=>n-1-k
noncomputable def aW {α:Type} (xs:List α) (lo hi st:V):Option (List α):=
 match st with
 |.none=>match lo,hi with
  |.none,.none=>some xs|.int a,.none=>some (drop xs (aV (len xs) a))|.none,.int b=>some (take xs (aV (len xs) b))|.int a,.int b=>some (drop (take xs (aV (len xs) b)) (aV (len xs) a))|_,_=>.none
 |.int i=>match kP i (-1) with
  |true=>match lo,hi with
   |.none,.none=>some (Fe xs)|_,_=>.none
  |false=>.none
 |_=>.none
noncomputable def small (i:Int):Bool:=QT i.natAbs 1000000000
noncomputable def cY (vs:List V) (i:V) (s:St):R V:=match i with
 |.int k=>match small k with
  |true=>match fh (len vs) k with
   |some n=>gN 3 (aZ vs n) s|.none=>.ez 2 s
  |false=>.no 4
 |_=>.no 4
noncomputable def vX (x:List Nat) (i:V) (s:St):R V:=match i with
 |.int k=>match small k with
  |true=>match fh (len x) k with
   |some n=>match aZ x n with
    |some c=>.ok (.str [c]) s|.none=>.no 1
   |.none=>.no 1
  |false=>.no 4
 |_=>.no 1
noncomputable def cN (o i:V) (s:St):R V:=match o with
 |.str x=>vX x i s|.av x=>cY x i s|.ar l=>match s.get l with
  |some (.list vs)=>cY vs i s|some (.dict es)=>match aA i with
   |true=>match aE es i with
    |some v=>.ok v s|.none=>.ez 1 s
   |false=>.no 5
  |_=>.no 5
 |_=>.no 6
noncomputable def cz (o lo hi st:V) (s:St):R V:=match o with
 |.str x=>match aN (len x) with
  |true=>(match aW x lo hi st with|some r=>.ok (.str r) s|.none=>.no 7)|false=>.no 7
 |.av x=>match aN (len x) with
  |true=>(match st with|.none=>(match aW x lo hi .none with|some r=>.ok (.av r) s|.none=>.no 8)|_=>.no 8)|false=>.no 8
 |.cX x=>match aN (len x) with
  |true=>(match aW x lo hi st with|some r=>.ok (.ar s.n) (s.new (.list r))|.none=>.no 9)|false=>.no 9
 |.ar l=>match s.get l with
  |some (.list vs)=>match aN (len vs) with
   |true=>(match aW vs lo hi st with
    |some r=>.ok (.ar s.n) (s.new (.list r))|.none=>.no 9)
   |false=>.no 9
  |_=>.no 10
 |_=>.no 11
noncomputable def AI (c:Nat) (y:List Nat):Bool:=@QA Nat (λzz=>Bool) false (λa zz ih=>PS ih true (P8 a c)) y
noncomputable def H6 (x c:V) (s:St):Option Bool:=match c with
 |.str y=>match x with
  |.str z=>match z with|[c]=>some (AI c y)|_=>.none
  |_=>.none
 |.av vs=>contains x vs|.ar l=>match s.get l with
  |some (.list vs)=>contains x vs|some (.set ss)=>match x with|.str z=>some (rV z ss)|_=>.none
  |some (.dict es)=>match aA x with
   |true=>some (Option.rec false (λzz=>true) (aE es x))|false=>.none
  |_=>.none
 |_=>.none
noncomputable def Im (a b:V):Option Bool:=match a with
 |.int a=>match b with|.int b=>some (gM a b)|_=>.none
 |_=>.none
noncomputable def gD (l:List V):Option (List (List Nat)):=@QA _ (λzz=>Option (List (List Nat))) (some []) (λv zz ih=>match v with
 |.str x=>match ih with|some r=>some (x::r)|.none=>.none
 |_=>.none) l
noncomputable def eC (sep:List Nat) (l:List (List Nat)):List Nat:=@QA _ (λzz=>List Nat) [] (λx t ih=>Rb t x (λzz zz=>dZ x (dZ sep ih))) l
noncomputable def kQ (x:List Nat):List Nat:=39::dZ x [39]
noncomputable def eA (b:Bool):Bool:=PS true false b
noncomputable def pW (x:List Nat):Nat->List Nat:=λn=>@Nat.rec (λzz=>List Nat) [] (λzz ih=>dZ x ih) n
noncomputable def aP (a b:Bool):Bool:=PS false b a
noncomputable def Le (a b:Bool):Bool:=PS b true a
noncomputable def kR (c:Nat):Bool:=aP (QT 32 c) (aP (QT c 127) (aP (eA (P8 c 34)) (aP (eA (P8 c 39)) (eA (P8 c 92)))))
noncomputable def rW (x:List Nat):Bool:=@QA Nat (λzz=>Bool) true (λc zz ih=>aP (kR c) ih) x
noncomputable def vY (l:List (List Nat)):Bool:=@QA _ (λzz=>Bool) true (λx zz ih=>aP (rW x) ih) l
noncomputable def zu (v:V) (s:St):Option (List Nat):=match v with
 |.str x=>some x|.ar l=>match s.get l with
  |some (.list vs)=>match gD vs with
   |some xs=>match aP (Ld xs) (vY xs) with
    |true=>some (91::dZ (eC [44,32] (xs.map kQ)) [93])|false=>.none
   |.none=>.none
  |_=>.none
 |_=>.none
noncomputable def fX (o:qF) (a b:V) (s:St):R V:=match o with
 |.add=>match a with
  |.int x=>match b with|.int y=>.ok (.int (x+y)) s|_=>.no 20
  |.str x=>match b with|.str y=>(match aN (len x+len y) with|true=>.ok (.str (dZ x y)) s|false=>.no 20)|_=>.no 20
  |.ar l=>match b with
   |.ar m=>match s.get l with
    |some (.list x)=>match s.get m with
     |some (.list y)=>(match aN (len x+len y) with|true=>.ok (.ar s.n) (s.new (.list (dZ x y)))|false=>.no 20)|_=>.no 20
    |_=>.no 20
   |_=>.no 20
  |_=>.no 21
 |.az=>match a with|.int x=>(match b with|.int y=>.ok (.int (x-y)) s|_=>.no 22)|_=>.no 22
 |.mul=>match a with
  |.int x=>(match b with|.int y=>(match aP (small x) (small y) with|true=>.ok (.int (x*y)) s|false=>.no 22)|_=>.no 22)|.str x=>(match b with|.int y=>(match aP (small y) (aN (len x*y.toNat)) with|true=>.ok (.str (pW x y.toNat)) s|false=>.no 22)|_=>.no 22)|_=>.no 23
 |.vV=>match a with
  |.int x=>match b with|.int y=>(match gM 0 y with|true=>.ok (.int (Int.fmod x y)) s|false=>.no 24)|_=>.no 24
  |_=>.no 27
 |.fdiv=>match a with
  |.int x=>match b with|.int y=>(match aP (gM 0 y) (small y) with|true=>.ok (.int (Int.fdiv x y)) s|false=>.no 28)|_=>.no 28
  |_=>.no 29
noncomputable def rX (o:qF) (a b:V) (s:St):R V:=match o with
 |.add=>match a with|.int x=>(match b with|.int y=>.ok (.int (x+y)) s|_=>.no 30)|_=>.no 30
 |.az=>match a with|.int x=>(match b with|.int y=>.ok (.int (x-y)) s|_=>.no 30)|_=>.no 30
 |_=>.no 30
noncomputable def Lf (a b:V):Option Bool:=match b with
 |.none=>match a with|.none=>some true|.bool _=>some false|.int _=>some false|.str _=>some false|.av _=>some false|.ar _=>some false|.bc .. =>some false|_=>.none
 |_=>.none
noncomputable def Io (a b:V):Option Bool:=@PS (λzz=>Option Bool) .none (@PS (λzz=>Option Bool) .none (jk a b) (bV b 60)) (bV a 60)
noncomputable def Ip (x y:List V):Option Bool:=@PS (λzz=>Option Bool) (some false) (@PS (λzz=>Option Bool) .none (@PS (λzz=>Option Bool) .none (jk (.av x) (.av y)) (eU y 60)) (eU x 60)) (P8 (len x) (len y))
noncomputable def Ff (a b:V) (s:St):Option Bool:=match a with
 |.ar l=>match b with
  |.ar m=>match s.get l with
   |some (.list x)=>match s.get m with
    |some (.list y)=>Ip x y|_=>.none
   |_=>.none
  |_=>.none
 |_=>Io a b
noncomputable def ub (f:Bool->Bool) (x:Option Bool):Option Bool:=@Option.rec Bool (λzz=>Option Bool) .none (λb=>some (f b)) x
noncomputable def iF (o:AH) (a b:V) (s:St):Option Bool:=match o with
 |.eq=>Ff a b s|.ne=>ub eA (Ff a b s)|.lt=>Im a b|.gt=>Im b a|.le=>ub eA (Im b a)|.ge=>ub eA (Im a b)|.is=>Lf a b|.t9=>ub eA (Lf a b)|.mF=>H6 a b s|.dA=>ub eA (H6 a b s)
noncomputable def gO (es:List (Code V)):Code (List V):=@QA _ (λzz=>Code (List V)) (λzz zz s=>.ok [] s)
 (λe zz ih c lo s=>(e c lo s).bind λv s=>(ih c lo s).bind λvs s=>.ok (v::vs) s) es
noncomputable def ea (e:Code V):Code Bool:=λc lo s=>(e c lo s).bind λv s=>gN 40 (aM v s) s
noncomputable def iR (l:List (Nat×Nat)) (x:Nat):Option Nat:=@QA _ (λzz=>Option Nat) .none (λp zz ih=>PS ih (some p.2) (P8 p.1 x)) l
noncomputable def eb (P:G) (v:V) (a:Nat) (s:St):R V:=match v with
 |.bc c d=>match s.get d with
  |some (.ns fs)=>match ao fs a with
   |some v=>.ok v s|.none=>match aZ P.cls c with
    |some cl=>gN 60 (ao cl.fW a) s|.none=>.no 61
  |_=>.no 62
 |_=>.no 63
noncomputable def uc (ps:List Nat):List V->Option Lo:=@QA Nat (λzz=>List V->Option Lo) (λvs=>Rb vs (some []) (λzz zz=>.none))
  (λp zz ih vs=>Rb vs .none (λv vs=>match ih vs with|some lo=>some ((p,v)::lo)|.none=>.none)) ps
noncomputable def bindArgs (ps:List Nat) (ds vs:List V):Option Lo:=uc ps (dZ vs (drop ds (len vs+len ds-len ps)))
noncomputable def vZ (l:List V):Option Bool:=@QA _ (λzz=>Option Bool) (some true) (λv zz ih=>match v with|.bool b=>(match ih with|some r=>some (aP b r)|.none=>.none)|_=>.none) l
noncomputable def nE {α:Type} (l:List α):Option Int:=@PS (λzz=>Option Int) .none (some (len l)) (aN (len l))
noncomputable def ud (v:V) (s:St):Option Int:=match v with
  |.str x=>nE x|.av x=>nE x|.ar l=>match s.get l with
   |some (.list vs)=>nE vs|some (.set vs)=>nE vs|_=>.none
  |_=>.none
noncomputable def qG (x:List Nat):List Nat->Bool:=@QA Nat (λzz=>List Nat->Bool) (λy=>Rb y false (λzz zz=>true)) (λa zz ih y=>Rb y false (λb l=>PS (PS false (ih l) (P8 a b)) true (QT a b))) x
noncomputable def vI (v:V):Option Int:=match v with|.int i=>some i|_=>.none
noncomputable def vS (v:V):Option (List Nat):=match v with|.str i=>some i|_=>.none
noncomputable def nF (v:V):Option (Int×List Nat×List Nat):=match v with
 |.av l=>match l with
  |[a,b,c]=>(vI a).bind λi=>(vS b).bind λx=>(vS c).bind λp=>some (i,x,p)|_=>.none
 |_=>.none
noncomputable def Lg (a b:Int×List Nat×List Nat):Bool:=@PS (λzz=>Bool) (gM a.1 b.1) (@PS (λzz=>Bool) (qG a.2.1 b.2.1) (@PS (λzz=>Bool) (qG a.2.2 b.2.2) false (hJ a.2.2 b.2.2)) (hJ a.2.1 b.2.1)) (kP a.1 b.1)
noncomputable def fH {α:Type} (o:Nat->Nat->Bool) (t:PySem.W.KasT α):α:=@PySem.W.KasT.rec α (λzz=>α) (λa=>a) (λi j zz ih=>ih (o i j)) t
noncomputable def zv {α:Type} (n:Nat) (t:PySem.W.KasT α):Bool:=@PySem.W.KasT.rec α (λzz=>Bool) (λzz=>true) (λi j zz ih=>aP (QT i n) (aP (QT j n) (aP (eA (P8 i j)) (aP (ih true) (ih false))))) t
noncomputable def H7 (vs:List V) (i:Nat):V:=vs.getD i .none
noncomputable def qH (vs:List V) (i:Nat):Int×List Nat×List Nat:=(nF (H7 vs i)).getD (0,[],[])
noncomputable def v3 (l:List V):Bool:=@QA _ (λzz=>Bool) true (λv zz ih=>aP (nF v).isSome ih) l
noncomputable def iG (vs:List V):Option (List V):=@PS (λzz=>Option (List V)) (@PS (λzz=>Option (List V)) .none (some ((fH (λi j=>Lg (qH vs i) (qH vs j)) (PySem.W.kas_sort vs.length)).toList.map (H7 vs))) (aP (QT vs.length 64) (aP (v3 vs) (zv vs.length (PySem.W.kas_sort vs.length))))) (some vs) (QT vs.length 2)
noncomputable def ed (b:Nat) (v:V) (s:St):R V:=match b with
 |0=>match ud v s with|some n=>.ok (.int n) s|.none=>.no 80
 |6=>match v with
  |.ar l=>match s.get l with
   |some (.list vs)=>match aN (len vs) with
    |true=>(match vZ vs with|some r=>.ok (.bool r) s|.none=>.no 82)|false=>.no 82
   |_=>.no 83
  |_=>.no 83
 |8=>match v with
  |.ar l=>match s.get l with
   |some (.list vs)=>(match iG vs with|some r=>.ok (.ar s.n) (s.new (.list r))|.none=>.no 84)|_=>.no 84
  |_=>.no 84
 |9=>match v with
  |.ar l=>match s.get l with
   |some (.list vs)=>(match aN (len vs) with|true=>.ok (.av vs) s|false=>.no 86)|_=>.no 86
  |_=>.no 86
 |10=>match v with
  |.av vs=>(match aN (len vs) with|true=>.ok (.ar s.n) (s.new (.list vs))|false=>.no 87)|.str x=>(match aN (len x) with|true=>.ok (.ar s.n) (s.new (.list (x.map λc=>.str [c])))|false=>.no 87)|_=>.no 87
 |_=>.no 88
noncomputable def nG (b:Nat) (x y:V) (s:St):R V:=match x with
 |.int x=>match y with
  |.int y=>match b with
   |3=>.ok (.int (PS x y (gM y x))) s|4=>.ok (.int (PS x y (gM x y))) s|_=>.no 88
  |_=>.no 88
 |_=>.no 88
noncomputable def v5 (b:Nat) (vs:List V) (s:St):R V:=match vs with
 |[v]=>ed b v s|[]=>match P8 b 11 with|true=>.ok (.ar s.n) (s.new (.set []))|false=>.no 89
 |[x,y]=>nG b x y s|_=>.no 88
noncomputable def j4 (l:Nat) (xs:List V) (m:Nat) (vs:List V) (s:St):R V:=match m with
 |0=>match vs with|[v]=>(match aN (len xs) with|true=>.ok .none (s.bU l (.list (dZ xs [v])))|false=>.no 90)|_=>.no 90
 |1=>match aN (len xs) with
  |true=>match vs with
   |[]=>match Fe xs with
    |v::r=>.ok v (s.bU l (.list (Fe r)))|[]=>.no 90
   |[v]=>match v with
    |.int k=>match kP k 0 with
     |true=>match xs with
      |v::r=>.ok v (s.bU l (.list r))|[]=>.no 91
     |false=>.no 91
    |_=>.no 91
   |_=>.no 92
  |false=>.no 90
 |3=>match vs with
  |[k,v]=>match k with
   |.int k=>match k with
    |.ofNat k=>(match aP (aN (len xs)) (aN k) with|true=>.ok .none (s.bU l (.list (dZ (take xs k) (v::drop xs k))))|false=>.no 93)|_=>.no 93
   |_=>.no 93
  |_=>.no 93
 |_=>.no 92
noncomputable def zw (es:List (V×V)) (vs:List V) (s:St):R V:=match vs with
 |[k]=>match aA k with
  |true=>match aE es k with|some v=>.ok v s|.none=>.ok .none s
  |false=>.no 93
 |[k,d]=>match aA k with
  |true=>match aE es k with|some v=>.ok v s|.none=>.ok d s
  |false=>.no 93
 |_=>.no 93
noncomputable def Iq (l:Nat) (ss:List (List Nat)) (vs:List V) (s:St):R V:=match vs with
 |[v]=>match v with
  |.str x=>match QT (len ss) 4000 with|true=>(match rV x ss with|true=>.ok .none s|false=>.ok .none (s.bU l (.set (dZ ss [x]))))|false=>.no 94
  |_=>.no 94
 |_=>.no 94
noncomputable def x8 (es:List (V×V)) (d:V) (m:Nat) (vs:List V) (s:St):R V:=match m with
 |2=>match vs with
  |[k,d']=>match aP (aA k) (aP (aA d) (aP (aA d') (mG (jk d d')))) with
   |true=>gN 97 (aE es k) s|false=>.no 97
  |_=>.no 97
 |_=>.no 97
noncomputable def Du (x:List Nat) (m:Nat) (vs:List V) (s:St):R V:=match m with
 |4=>match vs with
  |[v]=>match v with
   |.av l=>match gD l with
    |some r=>match aP (aN (len x)) (aN (len (eC x r))) with|true=>.ok (.str (eC x r)) s|false=>.no 96
    |.none=>.no 96
   |_=>.no 97
  |_=>.no 98
 |_=>.no 98
noncomputable def qI (es:List (V×V)) (m:Nat) (vs:List V) (s:St):R V:=match m with|2=>zw es vs s|_=>.no 93
noncomputable def F5 (l:Nat) (ss:List (List Nat)) (m:Nat) (vs:List V) (s:St):R V:=match m with|6=>Iq l ss vs s|_=>.no 94
noncomputable def Dv (P:G) (k d m:Nat) (s:St):Option Nat:=match s.get d with
 |some (.ns _)=>match aZ P.cls k with
  |some cl=>iR cl.d8 m|.none=>.none
 |_=>.none
noncomputable def x9 (v:V) (s:St):R V:=match v with
 |.int i=>match aP (gM (-1) i) (small i) with|true=>.ok (.int i) s|false=>.no 102
 |_=>.no 102
noncomputable def Dx (P:G) (c:Ctx) (k d:Nat) (s:St):R V:=match Dv P k d 100 s with
 |some f=>(c.call f [.bc k d] s).bind x9|.none=>.no 99
noncomputable def fJ (v:V) (s:St):Option It:=match v with
 |.av vs=>some (.av vs)|.str x=>some (.str x)|.ar l=>match s.get l with
  |some (.list _)=>some (.list l 0)|some (.dict es)=>some (.fV l 0 (len es))|_=>.none
 |_=>.none
noncomputable def next (it:It) (s:St):Option (Option (V×It)):=@It.rec (λzz=>Option (Option (V×It)))
 (λl i=>match s.get l with
  |some (.list vs)=>match aZ vs i with
   |some v=>some (some (v,.list l (i+1)))|.none=>some .none
  |_=>.none)
 (λvs=>match vs with|[]=>some .none|v::vs=>some (some (v,.av vs)))
 (λx=>match x with|[]=>some .none|c::x=>some (some (.str [c],.str x)))
 (λi n=>match gM i n with|true=>some (some (.int i,.range (i+1) n))|false=>some .none)
 (λd i n=>match s.get d with
  |some (.dict es)=>match P8 (len es) n with
   |true=>match aZ es i with
    |some p=>some (some (p.1,.fV d (i+1) n))|.none=>some .none
   |false=>.none
  |_=>.none)
 (λd i n=>match s.get d with
  |some (.dict es)=>match P8 (len es) n with
   |true=>match aZ es i with
    |some p=>some (some (.av [p.1,p.2],.items d (i+1) n))|.none=>some .none
   |false=>.none
  |_=>.none)
 (λzz k ih=>match ih with
  |some (some (v,it'))=>some (some (.av [.int k,v],.hI it' (k+1)))|some .none=>some .none|.none=>.none) it
noncomputable def bf (xs:List Nat) (v:V) (lo:Lo):Option Lo:=match xs with
 |[x]=>some (a9 lo x v)|[x,y]=>match v with
  |.av vs=>match vs with
   |[a,b]=>some (a9 (a9 lo x a) y b)|_=>.none
  |_=>.none
 |_=>.none
noncomputable def j5 (k:Nat) (es:List (Code V)):Code It:=λc lo s=>(gO es c lo s).bind λvs s=>match k with
 |0=>match vs with
  |[v]=>gN 55 (fJ v s) s|_=>.no 55
 |1=>match vs with
  |[n]=>match n with
   |.int n=>(match small n with|true=>.ok (.range 0 n) s|false=>.no 50)|_=>.no 50
  |[a,n]=>match a with
   |.int a=>match n with
    |.int n=>(match aP (small a) (small n) with|true=>.ok (.range a n) s|false=>.no 50)|_=>.no 50
   |_=>.no 50
  |_=>.no 50
 |2=>match vs with
  |[v]=>match v with
   |.av vs=>.ok (.hI (.av vs) 0) s|.ar l=>match s.get l with
    |some (.list _)=>.ok (.hI (.list l 0) 0) s|_=>.no 51
   |_=>.no 51
  |_=>.no 51
 |3=>match vs with
  |[v]=>match v with
   |.ar l=>match s.get l with
    |some (.dict es)=>.ok (.items l 0 (len es)) s|_=>.no 53
   |_=>.no 53
  |_=>.no 53
 |_=>.no 54
namespace e
noncomputable def none:Code V:=λzz zz s=>.ok .none s
noncomputable def bool (b:Bool):Code V:=λzz zz s=>.ok (.bool b) s
noncomputable def int (i:Int):Code V:=λzz zz s=>.ok (.int i) s
noncomputable def str (x:List Nat):Code V:=λzz zz s=>.ok (.str x) s
noncomputable def vr (x:Nat):Code V:=λzz lo s=>gN 110 (ao lo x) s
noncomputable def cQ (P:G) (x:Nat):Code V:=λzz zz s=>gN 111 (ao P.iQ x) s
noncomputable def dX (o:qF) (a b:Code V):Code V:=λc lo s=>(a c lo s).bind λa s=>(b c lo s).bind λb s=>fX o a b s
noncomputable def not (a:Code V):Code V:=λc lo s=>(ea a c lo s).bind λb s=>.ok (.bool (eA b)) s
noncomputable def neg (a:Code V):Code V:=λc lo s=>(a c lo s).bind λv s=>match v with|.int i=>.ok (.int (-i)) s|_=>.no 112
noncomputable def and (es:List (Code V)):Code V:=@QA _ (λzz=>Code V) (λzz zz zz=>.no 41) (λe l ih=>@Rb _ (λzz=>Code V) l e (λzz zz c lo s=>(e c lo s).bind λv s=>(gN 40 (aM v s) s).bind λb s=>PS (.ok v s) (ih c lo s) b)) es
noncomputable def or (es:List (Code V)):Code V:=@QA _ (λzz=>Code V) (λzz zz zz=>.no 41) (λe l ih=>@Rb _ (λzz=>Code V) l e (λzz zz c lo s=>(e c lo s).bind λv s=>(gN 40 (aM v s) s).bind λb s=>PS (ih c lo s) (.ok v s) b)) es
noncomputable def ite (t a b:Code V):Code V:=λc lo s=>(ea t c lo s).bind λr s=>PS (b c lo s) (a c lo s) r
noncomputable def cmp (o:AH) (a b:Code V):Code V:=λc lo s=>(a c lo s).bind λa s=>(b c lo s).bind λb s=>match iF o a b s with|some r=>.ok (.bool r) s|.none=>.no 43
noncomputable def list (es:List (Code V)):Code V:=λc lo s=>(gO es c lo s).bind λvs s=>.ok (.ar s.n) (s.new (.list vs))
noncomputable def av (es:List (Code V)):Code V:=λc lo s=>(gO es c lo s).bind λvs s=>.ok (.av vs) s
noncomputable def yd (es:List (Code V×Code V)):Code (List (V×V)):=@QA _ (λzz=>Code (List (V×V))) (λzz zz s=>.ok [] s)
 (λe zz ih c lo s=>(e.1 c lo s).bind λk s=>(e.2 c lo s).bind λv s=>(ih c lo s).bind λr s=>.ok ((k,v)::r) s) es
noncomputable def Di (kvs:List (V×V)):List (V×V)->Option (List (V×V)):=@QA _ (λzz=>List (V×V)->Option (List (V×V))) (λes=>some es)
 (λkv zz ih es=>PS .none (ih (bD es kv.1 kv.2)) (aA kv.1)) kvs
noncomputable def dict (es:List (Code V×Code V)):Code V:=λc lo s=>(yd es c lo s).bind λkvs s=>match Di kvs [] with
 |some es=>.ok (.ar s.n) (s.new (.dict es))|.none=>.no 44
noncomputable def ah (P:G) (e:Code V) (a:Nat):Code V:=λc lo s=>(e c lo s).bind λv s=>eb P v a s
noncomputable def az (e i:Code V):Code V:=λc lo s=>(e c lo s).bind λo s=>(i c lo s).bind λi s=>cN o i s
noncomputable def bN (e a b st:Code V):Code V:=λc lo s=>(e c lo s).bind λo s=>(a c lo s).bind λa s=>(b c lo s).bind λb s=>(st c lo s).bind λst s=>cz o a b st s
noncomputable def call (f:Nat) (es:List (Code V)):Code V:=λc lo s=>(gO es c lo s).bind λvs s=>c.call f vs s
noncomputable def new (P:G) (k:Nat) (es:List (Code V)):Code V:=λc lo s=>(gO es c lo s).bind λvs s=>match aZ P.cls k with
  |some cl=>(c.call cl.mH (.bc k s.n::vs) (s.new (.ns []))).bind λv s'=>match v with|.none=>.ok (.bc k s.n) s'|_=>.no 113
  |.none=>.no 113
noncomputable def aS (P:G) (b:Nat) (es:List (Code V)):Code V:=λc lo s=>(gO es c lo s).bind λvs s=>match vs with
 |[v]=>match v with
  |.bc k d=>match P8 b 0 with|true=>Dx P c k d s|false=>.no 114
  |v=>ed b v s
 |vs=>v5 b vs s
noncomputable def aH (P:G) (e:Code V) (m:Nat) (es:List (Code V)):Code V:=λc lo s=>(e c lo s).bind λo s=>match o with
 |.ar l=>match s.get l with
  |some (.list _)=>(bb (gO es c lo s)).bind λvs s=>match s.get l with
   |some (.list xs)=>j4 l xs m vs s|_=>.no 95
  |some (.dict _)=>(bb (gO es c lo s)).bind λvs s=>match s.get l with
   |some (.dict xs)=>qI xs m vs s|_=>.no 95
  |some (.set _)=>(bb (gO es c lo s)).bind λvs s=>match s.get l with
   |some (.set xs)=>F5 l xs m vs s|_=>.no 95
  |some (.view ..)=>(bb (gO es c lo s)).bind λvs s=>match s.get l with
   |some (.view es d)=>x8 es d m vs s|_=>.no 95
  |_=>.no 95
 |.str x=>(bb (gO es c lo s)).bind λvs s=>Du x m vs s|.bc k d=>match Dv P k d m s with
  |some f=>(bb (gO es c lo s)).bind λvs s=>c.call f (.bc k d::vs) s|.none=>.no 99
 |_=>.no 101
noncomputable def j6 (P:G) (x:Nat) (es:List (Code V)):Code V:=λc lo s=>match ao lo x with
  |some (.qE k du)=>(gO es c lo s).bind λvs s=>match aZ P.nC k with
   |some f=>c.call f (dZ du vs) s|.none=>.no 115
  |_=>.no 116
noncomputable def iS (lo:Lo) (xs:List Nat):Option (List V):=@QA _ (λzz=>Option (List V)) (some []) (λx zz ih=>match ao lo x with
 |some v=>(match ih with|some r=>some (v::r)|.none=>.none)|.none=>.none) xs
noncomputable def kS (k:Nat) (xs:List Nat):Code V:=λzz lo s=>match iS lo xs with|some vs=>.ok (.qE k vs) s|.none=>.no 117
noncomputable def qJ (es:List (Code V)):Code (List Nat):=@QA _ (λzz=>Code (List Nat)) (λzz zz s=>.ok [] s) (λe zz ih c lo s=>(e c lo s).bind λv s=>match zu v s with
 |some x=>(ih c lo s).bind λr s=>match aN (len x+len r) with|true=>.ok (dZ x r) s|false=>.no 118
 |.none=>.no 118) es
noncomputable def rY (es:List (Code V)):Code V:=λc lo s=>(bb (qJ es c lo s)).bind λr s=>.ok (.str r) s
noncomputable def ifs (es:List (Code V)):Code Bool:=@QA _ (λzz=>Code Bool) (λzz zz s=>.ok true s) (λe zz ih c lo s=>(ea e c lo s).bind λb s=>PS (.ok false s) (ih c lo s) b) es
noncomputable def fb (e:Code V) (xs:List Nat) (is:Code Bool) (c:Ctx):Nat->It->List V->Lo->St->R (List V):=λn=>@Nat.rec (λzz=>It->List V->Lo->St->R (List V)) (λzz zz zz zz=>.no 0)
 (λzz ih it acc lo s=>match next it s with
 |some (some (v,it'))=>match bf xs v lo with
  |some lo'=>(is c lo' s).bind λb s=>PS (ih it' acc lo' s) ((e c lo' s).bind λw s=>match aN (len acc) with|true=>ih it' (dZ acc [w]) lo' s|false=>.no 131) b|.none=>.no 131
 |some .none=>.ok acc s|.none=>.no 132) n
noncomputable def comp (e:Code V) (xs:List Nat) (it:Code It) (is:List (Code V)):Code V:=λc lo s=>(it c lo s).bind λit s=>(bb (fb e xs (ifs is) c c.n it [] lo s)).bind λvs s=>.ok (.ar s.n) (s.new (.list vs))
noncomputable def gP (k e:Code V) (xs:List Nat) (is:Code Bool) (c:Ctx):Nat->It->List (V×V)->Lo->St->R (List (V×V)):=λn=>@Nat.rec (λzz=>It->List (V×V)->Lo->St->R (List (V×V))) (λzz zz zz zz=>.no 0)
 (λzz ih it acc lo s=>match next it s with
 |some (some (v,it'))=>match bf xs v lo with
  |some lo'=>(is c lo' s).bind λb s=>PS (ih it' acc lo' s) ((k c lo' s).bind λa s=>(e c lo' s).bind λw s=>match aA a with
    |true=>(match aN (len acc) with|true=>ih it' (bD acc a w) lo' s|false=>.no 131)|false=>.no 131) b
  |.none=>.no 131
 |some .none=>.ok acc s|.none=>.no 132) n
noncomputable def lT (k e:Code V) (xs:List Nat) (it:Code It) (is:List (Code V)):Code V:=λc lo s=>(it c lo s).bind λit s=>(bb (gP k e xs (ifs is) c c.n it [] lo s)).bind λvs s=>.ok (.ar s.n) (s.new (.dict vs))
end e
noncomputable def dB (o:V) (a:Nat) (v:V) (s:St):R Unit:=match o with
 |.bc _ d=>match s.get d with
  |some (.ns fs)=>(match aN (len fs) with|true=>.ok () (s.bU d (.ns (a9 fs a v)))|false=>.no 70)|_=>.no 70
 |_=>.no 71
noncomputable def fK (o k v:V) (s:St):R Unit:=match o with
 |.ar l=>match s.get l with
  |some (.dict es)=>match aA k with
   |true=>(match aN (len es) with|true=>.ok () (s.bU l (.dict (bD es k v)))|false=>.no 74)|false=>.no 74
  |some (.list vs)=>match k with
   |.int k=>match k with
    |.ofNat n=>match aP (QT n (len vs)) (aN n) with
     |true=>.ok () (s.bU l (.list (ua v vs n)))|false=>.no 72
    |_=>.no 72
   |_=>.no 73
  |_=>.no 74
 |_=>.no 75
noncomputable abbrev TC:=V->Code Lo
namespace t
noncomputable def vr (x:Nat):TC:=λv zz lo s=>.ok (a9 lo x v) s
noncomputable def ah (e:Code V) (a:Nat):TC:=λv c lo s=>(e c lo s).bind λo s=>(dB o a v s).bind λzz s=>.ok lo s
noncomputable def az (e i:Code V):TC:=λv c lo s=>(e c lo s).bind λo s=>(i c lo s).bind λk s=>(fK o k v s).bind λzz s=>.ok lo s
noncomputable def av (ts:List TC):TC:=λv c lo s=>match v with
  |.av vs=>match P8 (len ts) (len vs) with
   |true=>@QA _ (λzz=>List V->Lo->St->R Lo) (λzz lo s=>.ok lo s) (λt zz ih vs lo s=>Rb vs (.ok lo s) (λv vs=>(t v c lo s).bind λlo s=>ih vs lo s)) ts vs lo s|false=>.no 76
  |_=>.no 77
end t
noncomputable abbrev SC:=Code (Flow×Lo)
noncomputable def block (ss:List SC):SC:=@QA _ (λzz=>SC) (λzz lo s=>.ok (.next,lo) s) (λt zz ih c lo s=>(t c lo s).bind λr s=>match r.1 with
 |.next=>ih c r.2 s|_=>.ok r s) ss
namespace s
noncomputable def expr (e:Code V):SC:=λc lo s=>(e c lo s).bind λzz s=>.ok (.next,lo) s
noncomputable def aq (t:TC) (e:Code V):SC:=λc lo s=>(e c lo s).bind λv s=>(t v c lo s).bind λlo s=>.ok (.next,lo) s
noncomputable def j7 (x:Nat) (o:qF) (e:Code V):SC:=λc lo s=>(gN 121 (ao lo x) s).bind λa s=>(e c lo s).bind λb s=>(rX o a b s).bind λv s=>.ok (.next,a9 lo x v) s
noncomputable def kT (P:G) (e:Code V) (a:Nat) (o:qF) (v:Code V):SC:=λc lo s=>(e c lo s).bind λob s=>(eb P ob a s).bind λold s=>(v c lo s).bind λb s=>(rX o old b s).bind λr s=>(dB ob a r s).bind λzz s=>.ok (.next,lo) s
noncomputable def ret (e:Code V):SC:=λc lo s=>(e c lo s).bind λv s=>.ok (.ret v,lo) s
noncomputable def brk:SC:=λzz lo s=>.ok (.brk,lo) s
noncomputable def cont:SC:=λzz lo s=>.ok (.cont,lo) s
noncomputable def ue:SC:=λzz lo s=>.ok (.next,lo) s
noncomputable def cond (t:Code V) (b o:SC):SC:=λc lo s=>(ea t c lo s).bind λr s=>PS (o c lo s) (b c lo s) r
noncomputable def v7 (t:Code V) (b o:SC) (c:Ctx):Nat->Lo->St->R (Flow×Lo):=λn=>@Nat.rec (λzz=>Lo->St->R (Flow×Lo)) (λzz zz=>.no 0)
 (λzz ih lo s=>(ea t c lo s).bind λr s=>PS (o c lo s) ((b c lo s).bind λr s=>match r.1 with
  |.next=>ih r.2 s|.cont=>ih r.2 s|.brk=>.ok (.next,r.2) s|.ret v=>.ok (.ret v,r.2) s) r) n
noncomputable def bP (t:Code V) (b o:SC):SC:=λc lo s=>bb (v7 t b o c c.n lo s)
noncomputable def iT (t:TC) (b o:SC) (c:Ctx):Nat->It->Lo->St->R (Flow×Lo):=λn=>@Nat.rec (λzz=>It->Lo->St->R (Flow×Lo)) (λzz zz zz=>.no 0)
 (λzz ih it lo s=>match next it s with
 |some (some (v,it'))=>(t v c lo s).bind λlo s=>(b c lo s).bind λr s=>match r.1 with
  |.next=>ih it' r.2 s|.cont=>ih it' r.2 s|.brk=>.ok (.next,r.2) s|.ret v=>.ok (.ret v,r.2) s
 |some .none=>o c lo s|.none=>.no 130) n
noncomputable def ba (t:TC) (e:Code It) (b o:SC):SC:=λc lo s=>(e c lo s).bind λit s=>bb (iT t b o c c.n it lo s)
noncomputable def pX (b:SC) (ks:List Nat) (h:SC):SC:=λc lo s=>match b c lo s with
  |.ok r s=>.ok r s|.ez k s=>match ks.any (P8 k) with
   |true=>bb (h c lo s)|false=>.no 124
  |.no w=>.no w
noncomputable def stop:SC:=λzz zz zz=>.no 125
noncomputable def H8 (e a:Code V):SC:=λc lo s=>(e c lo s).bind λo s=>(a c lo s).bind λa s=>match o with
  |.ar l=>match a with
   |.int a=>match s.get l with
    |some (.list vs)=>(match aN (len vs) with|true=>.ok (.next,lo) (s.bU l (.list (take vs (aV (len vs) a))))|false=>.no 126)|_=>.no 126
   |_=>.no 126
  |_=>.no 127
noncomputable def oI (x:Option V):Option Int:=x.bind vI
noncomputable def oS (x:Option V):Option (List Nat):=x.bind vS
noncomputable def vL (v:V):Option Nat:=match v with|.ar i=>some i|_=>.none
noncomputable def oL (x:Option V):Option Nat:=x.bind vL
noncomputable def vO (v:V):Option (Nat×Nat):=match v with|.bc c d=>some (c,d)|_=>.none
noncomputable def oO (x:Option V):Option (Nat×Nat):=x.bind vO
noncomputable def oD (x:Option O):Option (List (V×V)):=match x with|some (.dict es)=>some es|_=>.none
noncomputable def oV (x:Option O):Option (List V):=match x with|some (.list es)=>some es|_=>.none
noncomputable def oN (x:Option O):Option (List (Nat×V)):=match x with|some (.ns es)=>some es|_=>.none
noncomputable def oT (x:Option O):Option (List (Bool×V)):=match x with|some (.list vs)=>some (vs.map λv=>(true,v))|some (.dq bs)=>some bs|_=>.none
noncomputable def jL (sl rl:Int) (rp:List Nat):Bool:=Le (gM rl sl) (aP (kP sl rl) (hJ rp [114,105,103,104,116]))
noncomputable def pY (sl rl:Int) (rp:List Nat):Bool:=aP (kP sl rl) (hJ rp [110,111,110,97,115,115,111,99])
noncomputable def Fg (lo:Lo):Int:=(oI (ao lo 171)).getD 0
noncomputable def Dy (lo:Lo):Int:=(oI (ao lo 173)).getD 0
noncomputable def F6 (lo:Lo):List Nat:=(oS (ao lo 172)).getD []
noncomputable def mY (lo:Lo):List Nat:=(oS (ao lo 27)).getD []
noncomputable def mA (lo:Lo):Nat:=(oL (ao lo 166)).getD 0
noncomputable def mB (lo:Lo):Nat:=(oL (ao lo 167)).getD 0
noncomputable def mJ (lo:Lo):Int:=(oI (ao lo 131)).getD 0
noncomputable def mP (lo:Lo):Nat×Nat:=(oO (ao lo 31)).getD (0,0)
noncomputable def LB (lo:Lo):Int:=(oI (ao lo 165)).getD 0
noncomputable def mL (lo:Lo):Nat:=(oL (ao lo 87)).getD 0
noncomputable def Dz (lo:Lo):Nat×Nat:=(oO (ao lo 72)).getD (0,0)
noncomputable def zx (lo:Lo) (s:St):List (V×V):=(oD (s.get (mA lo))).getD []
noncomputable def Dj (lo:Lo) (s:St):List (V×V):=(oD (s.get (mB lo))).getD []
noncomputable def Lh (lo:Lo) (s:St):Int:=(oI (aE (zx lo s) (.str (mY lo)))).getD 0
noncomputable def Fh (lo:Lo) (s:St):Nat×Nat:=(oO (aE (Dj lo s) (.str (mY lo)))).getD (0,0)
noncomputable def Ir (lo:Lo) (s:St):List (Nat×V):=(oN (s.get (Fh lo s).2)).getD []
noncomputable def mN (lo:Lo) (s:St):Int:=(oI (ao (Ir lo s) 32)).getD 0
noncomputable def DA (lo:Lo) (s:St):List V:=(oV (s.get (mL lo))).getD []
noncomputable def mK (lo:Lo) (s:St):Nat:=(fh (len (DA lo s)) (mN lo s)).getD 0
noncomputable def mQ (lo:Lo) (s:St):Nat×Nat:=(oO (aZ (DA lo s) (mK lo s))).getD (0,0)
noncomputable def zy (lo:Lo) (s:St):List (Nat×V):=(oN (s.get (mQ lo s).2)).getD []
noncomputable def mX (lo:Lo) (s:St):Int:=(oI (ao (zy lo s) 174)).getD 0
noncomputable def H9 (lo:Lo) (s:St):List (Nat×V):=(oN (s.get (Dz lo).2)).getD []
noncomputable def mC (lo:Lo) (s:St):Nat:=(oL (ao (H9 lo s) 70)).getD 0
noncomputable def AE (lo:Lo) (s:St):List (Bool×V):=(oT (s.get (mC lo s))).getD []
noncomputable def F7 (lo:Lo) (w:List Nat):V:=.av [.int (LB lo),.str (mY lo),.str w]
noncomputable def Iu:List Nat:=[115,104,105,102,116]
noncomputable def Li:List Nat:=[114,101,100,117,99,101]
noncomputable def mT (lo:Lo) (s:St):List Bool:=[(oI (ao lo 171)).isSome,(oI (ao lo 173)).isSome,(oS (ao lo 172)).isSome,(oS (ao lo 27)).isSome,(oL (ao lo 166)).isSome,(oL (ao lo 167)).isSome,(oI (ao lo 131)).isSome,(oO (ao lo 31)).isSome,(oI (ao lo 165)).isSome,(oL (ao lo 87)).isSome,(oO (ao lo 72)).isSome,
 (oD (s.get (mA lo))).isSome,(oD (s.get (mB lo))).isSome,(oI (aE (zx lo s) (.str (mY lo)))).isSome,(oO (aE (Dj lo s) (.str (mY lo)))).isSome,(oN (s.get (Fh lo s).2)).isSome,(oI (ao (Ir lo s) 32)).isSome,(oV (s.get (mL lo))).isSome,(fh (len (DA lo s)) (mN lo s)).isSome,(oO (aZ (DA lo s) (mK lo s))).isSome,(oN (s.get (mQ lo s).2)).isSome,(oI (ao (zy lo s) 174)).isSome,(oN (s.get (Dz lo).2)).isSome,(oL (ao (H9 lo s) 70)).isSome,(oT (s.get (mC lo s))).isSome,
 small (mN lo s),aN (len (zx lo s)),aN (len (Dj lo s)),aN (len (zy lo s)),aN (len (AE lo s)),eA (P8 (mA lo) (mB lo))]
noncomputable def v8 (l:List Bool):Bool:=@QA Bool (λzz=>Bool) true (λb zz ih=>aP b ih) l
noncomputable def zA (b n:Bool) (lo:Lo) (s:St):St:=((s.bU (mQ lo s).2 (.ns (a9 (zy lo s) 174 (.int (mX lo s-bif b then 1 else 0))))).bU (mA lo) (.dict (bD (zx lo s) (.str (mY lo)) (bif b then .int (mJ lo) else bif n then .none else .int (Lh lo s))))).bU (mB lo) (.dict (bD (Dj lo s) (.str (mY lo)) (bif b then .bc (mP lo).1 (mP lo).2 else .bc (Fh lo s).1 (Fh lo s).2)))
noncomputable def mR (b n z1 z2:Bool) (lo:Lo) (s:St):St:=(zA b n lo s).bU (mC lo s) (.dq (dZ (AE lo s) [(aP b z2,F7 lo Iu),(aP (aP (eA b) (eA n)) (aP z1 z2),F7 lo Li)]))
noncomputable def nH (lo:Lo) (s:St):Option St:=PS .none (some (mR (jL (Fg lo) (Dy lo) (F6 lo)) (pY (Fg lo) (Dy lo) (F6 lo)) (kP (Fg lo) 0) (kP (Dy lo) 0) lo s)) (v8 (mT lo s))
noncomputable def j8:SC:=λzz lo s=>match nH lo s with
 |some s'=>.ok (.next,lo) s'|.none=>.no 129
noncomputable def kU (e:Code V):SC:=λc lo s=>(ea e c lo s).bind λb s=>PS (.no 128) (.ok (.next,lo) s) b
end s
noncomputable def iU (fns:List Fn) (ih:Nat->List V->St->R V) (f:Nat) (vs:List V) (s:St):R V:=match aZ fns f with
 |some fn=>match bindArgs fn.params fn.defaults vs with
  |some lo=>(bb (fn.body ⟨1000,ih⟩ lo s)).bind λr s=>match r.1 with
   |.ret v=>.ok v s|_=>.ok .none s
  |.none=>.no 140
 |.none=>.no 141
noncomputable def run (fns:List Fn):Nat->Nat->List V->St->R V:=λn=>@Nat.rec (λzz=>Nat->List V->St->R V) (λzz zz zz=>.no 0)
 (λzz ih f vs s=>iU fns ih f vs s) n
end
set_option genCtorIdx false in
inductive E where
 |none|bool (b:Bool)|int (i:Int)|str (s:List Nat)|vr (x:Nat)|cQ (x:Nat)|dX (o:qF) (a b:E)|not (a:E)|neg (a:E)|and (es:List E)|or (es:List E)|ite (t a b:E)|cmp (o:AH) (a b:E)|list (es:List E)|av (es:List E)|dict (ks vs:List E)|ah (e:E) (a:Nat)|az (e i:E)|bN (e lo hi st:E)|call (f:Nat) (es:List E)|new (c:Nat) (es:List E)|aS (b:Nat) (es:List E)|aH (e:E) (m:Nat) (es:List E)|j6 (x:Nat) (es:List E)|kS (k:Nat) (xs:List Nat)|rY (es:List E)|comp (e:E) (xs:List Nat) (k:Nat) (it:List E) (ifs:List E)|lT (k v:E) (xs:List Nat) (kk:Nat) (it:List E) (ifs:List E)
set_option genCtorIdx false in
inductive T where
 |vr (x:Nat)|ah (e:E) (a:Nat)|az (e i:E)|av (ts:List T)
set_option genCtorIdx false in
inductive S where
 |expr (e:E)|aq (t:T) (e:E)|j7 (x:Nat) (o:qF) (e:E)|kT (e:E) (a:Nat) (o:qF) (v:E)|ret (e:E)|brk|cont|ue|cond (t:E) (b o:List S)|bP (t:E) (b o:List S)|ba (t:T) (k:Nat) (it:List E) (b o:List S)|pX (b:List S) (ks:List Nat) (h:List S)|stop|H8 (e lo:E)|kU (e:E)|j8
section
noncomputable def j9:List (Code V)->List (Code V)->List (Code V×Code V)
 |a::as,b::bs=>(a,b)::j9 as bs|_,_=>[]
mutual
noncomputable def dE (P:G):E->Code V
 |.none=>e.none|.bool b=>e.bool b|.int i=>e.int i|.str x=>e.str x|.vr x=>e.vr x|.cQ x=>e.cQ P x|.dX o a b=>e.dX o (dE P a) (dE P b)|.not a=>e.not (dE P a)|.neg a=>e.neg (dE P a)|.and es=>e.and (cW P es)|.or es=>e.or (cW P es)|.ite t a b=>e.ite (dE P t) (dE P a) (dE P b)|.cmp o a b=>e.cmp o (dE P a) (dE P b)|.list es=>e.list (cW P es)|.av es=>e.av (cW P es)|.dict ks vs=>e.dict (j9 (cW P ks) (cW P vs))|.ah x a=>e.ah P (dE P x) a|.az x i=>e.az (dE P x) (dE P i)|.bN x a b c=>e.bN (dE P x) (dE P a) (dE P b) (dE P c)|.call f es=>e.call f (cW P es)|.new k es=>e.new P k (cW P es)|.aS b es=>e.aS P b (cW P es)|.aH x m es=>e.aH P (dE P x) m (cW P es)|.j6 x es=>e.j6 P x (cW P es)|.kS k xs=>e.kS k xs|.rY es=>e.rY (cW P es)|.comp x xs k it ifs=>e.comp (dE P x) xs (j5 k (cW P it)) (cW P ifs)|.lT a b xs k it ifs=>e.lT (dE P a) (dE P b) xs (j5 k (cW P it)) (cW P ifs)
noncomputable def cW (P:G):List E->List (Code V)
 |[]=>[]|x::l=>dE P x::cW P l
end
mutual
noncomputable def dT (P:G):T->TC
 |.vr x=>t.vr x|.ah x a=>t.ah (dE P x) a|.az x i=>t.az (dE P x) (dE P i)|.av ts=>t.av (Lj P ts)
noncomputable def Lj (P:G):List T->List TC
 |[]=>[]|x::l=>dT P x::Lj P l
end
mutual
noncomputable def dS (P:G):S->SC
 |.expr x=>s.expr (dE P x)|.aq t x=>s.aq (dT P t) (dE P x)|.j7 x o y=>s.j7 x o (dE P y)|.kT x a o v=>s.kT P (dE P x) a o (dE P v)|.ret x=>s.ret (dE P x)|.brk=>s.brk|.cont=>s.cont|.ue=>s.ue|.cond t b o=>s.cond (dE P t) (block (dM P b)) (block (dM P o))|.bP t b o=>s.bP (dE P t) (block (dM P b)) (block (dM P o))|.ba t k it b o=>s.ba (dT P t) (j5 k (cW P it)) (block (dM P b)) (block (dM P o))|.pX b ks h=>s.pX (block (dM P b)) ks (block (dM P h))|.stop=>s.stop|.H8 x y=>s.H8 (dE P x) (dE P y)|.kU x=>s.kU (dE P x)|.j8=>s.j8
noncomputable def dM (P:G):List S->List SC
 |[]=>[]|x::l=>dS P x::dM P l
end
end
end Mp
end
namespace Mp
section
section
inductive Ev (P:Prop):Type
 |no|yes (h:P)
noncomputable def Ev.th {A P:Prop} (x:Ev A) (f:A->Ev P):Ev P:=@Ev.rec A (λzz=>Ev P) .no f x
noncomputable def Ev.ok {P:Prop} (x:Ev P):Bool:=@Ev.rec P (λzz=>Bool) false (λzz=>true) x
theorem Ev.get{P:Prop}:∀ {x:Ev P},x.ok=true->P
 |.yes h,_=>h
noncomputable def gd:(c:Bool)->Ev (c=true)
 |true=>.yes rfl|false=>.no
theorem aj{a b:Bool}(h:(a&&b)=true):a=true:=by cases a;exact h;rfl
theorem ab{a b:Bool}(h:(a&&b)=true):b=true:=by cases a;cases h;exact h
theorem r4{a b c d e:Bool}(h:(a&&(b&&(c&&(d&&e))))=true):e=true:=ab (ab (ab (ab h)))
theorem iV{a:Bool}(h:(!a)=true):a=false:=by cases a;rfl;cases h
theorem tt:true=true:=rfl
noncomputable def OP {α:Type _} (P:α->Prop):Option α->Prop
 |none=>True|some a=>P a
theorem OP.get{α:Type _}{P:α->Prop}{o:Option α}(h:OP P o){a:α}(e:o=some a):P a:=by rw[e] at h;exact h
theorem fk{a b c d:Nat}(h:a<=b)(e:c+b<=d+a:=by simp+arith):c<=d:=by omega
theorem Dk{a b a' b' c d:Nat}(h:a<=b)(h':a'<=b')(e:c+(b+b')<=d+(a+a'):=by simp+arith):c<=d:=by omega
theorem OV{a b a' b' a'' b'' c d:Nat}(h:a<=b)(h':a'<=b')(h'':a''<=b'')(e:c+(b+(b'+b''))<=d+(a+(a'+a'')):=by simp+arith):c<=d:=by omega
theorem dw{p0 p1 G:Prop}(h:p0/\p1)(k:p0->p1->G):G:=k h.1 h.2
theorem nI{p0 p1 p2 G:Prop}(h:p0/\p1/\p2)(k:p0->p1->p2->G):G:=k h.1 h.2.1 h.2.2
theorem Lk{p0 p1 p2 p3 G:Prop}(h:p0/\p1/\p2/\p3)(k:p0->p1->p2->p3->G):G:=k h.1 h.2.1 h.2.2.1 h.2.2.2
theorem Ll{p0 p1 p2 p3 p4 G:Prop}(h:p0/\p1/\p2/\p3/\p4)(k:p0->p1->p2->p3->p4->G):G:=k h.1 h.2.1 h.2.2.1 h.2.2.2.1 h.2.2.2.2
theorem aa{α:Type}{p0 p1:α->Prop}{G:Prop}(h:∃x0,p0 x0/\p1 x0)(k:∀x0,p0 x0->p1 x0->G):G:=h.elim λx0 h=>k x0 h.1 h.2
theorem aO{α:Type}{p0 p1 p2:α->Prop}{G:Prop}(h:∃x0,p0 x0/\p1 x0/\p2 x0)(k:∀x0,p0 x0->p1 x0->p2 x0->G):G:=h.elim λx0 h=>k x0 h.1 h.2.1 h.2.2
theorem dQ{α:Type}{p0 p1 p2 p3:α->Prop}{G:Prop}(h:∃x0,p0 x0/\p1 x0/\p2 x0/\p3 x0)(k:∀x0,p0 x0->p1 x0->p2 x0->p3 x0->G):G:=h.elim λx0 h=>k x0 h.1 h.2.1 h.2.2.1 h.2.2.2
theorem Iv{α:Type}{p0 p1 p2 p3 p4:α->Prop}{G:Prop}(h:∃x0,p0 x0/\p1 x0/\p2 x0/\p3 x0/\p4 x0)(k:∀x0,p0 x0->p1 x0->p2 x0->p3 x0->p4 x0->G):G:=h.elim λx0 h=>k x0 h.1 h.2.1 h.2.2.1 h.2.2.2.1 h.2.2.2.2
theorem mZ{α β:Type}{P:α->β->Prop}{G:Prop}(h:∃x0 x1,P x0 x1)(k:∀x0 x1,P x0 x1->G):G:=h.elim λx0 h=>h.elim λx1 h=>k x0 x1 h
theorem a8{α β:Type}{p0 p1:α->β->Prop}{G:Prop}(h:∃x0 x1,p0 x0 x1/\p1 x0 x1)(k:∀x0 x1,p0 x0 x1->p1 x0 x1->G):G:=h.elim λx0 h=>h.elim λx1 h=>k x0 x1 h.1 h.2
theorem aw{α β:Type}{p0 p1 p2:α->β->Prop}{G:Prop}(h:∃x0 x1,p0 x0 x1/\p1 x0 x1/\p2 x0 x1)(k:∀x0 x1,p0 x0 x1->p1 x0 x1->p2 x0 x1->G):G:=h.elim λx0 h=>h.elim λx1 h=>k x0 x1 h.1 h.2.1 h.2.2
theorem bK{α β:Type}{p0 p1 p2 p3:α->β->Prop}{G:Prop}(h:∃x0 x1,p0 x0 x1/\p1 x0 x1/\p2 x0 x1/\p3 x0 x1)(k:∀x0 x1,p0 x0 x1->p1 x0 x1->p2 x0 x1->p3 x0 x1->G):G:=h.elim λx0 h=>h.elim λx1 h=>k x0 x1 h.1 h.2.1 h.2.2.1 h.2.2.2
theorem jA{α β:Type}{p0 p1 p2 p3 p4:α->β->Prop}{G:Prop}(h:∃x0 x1,p0 x0 x1/\p1 x0 x1/\p2 x0 x1/\p3 x0 x1/\p4 x0 x1)(k:∀x0 x1,p0 x0 x1->p1 x0 x1->p2 x0 x1->p3 x0 x1->p4 x0 x1->G):G:=h.elim λx0 h=>h.elim λx1 h=>k x0 x1 h.1 h.2.1 h.2.2.1 h.2.2.2.1 h.2.2.2.2
theorem AJ{α β:Type}{p0 p1 p2 p3 p4 p5:α->β->Prop}{G:Prop}(h:∃x0 x1,p0 x0 x1/\p1 x0 x1/\p2 x0 x1/\p3 x0 x1/\p4 x0 x1/\p5 x0 x1)(k:∀x0 x1,p0 x0 x1->p1 x0 x1->p2 x0 x1->p3 x0 x1->p4 x0 x1->p5 x0 x1->G):G:=h.elim λx0 h=>h.elim λx1 h=>k x0 x1 h.1 h.2.1 h.2.2.1 h.2.2.2.1 h.2.2.2.2.1 h.2.2.2.2.2
theorem Fi{α β:Type}{p0 p1 p2 p3 p4 p5 p6:α->β->Prop}{G:Prop}(h:∃x0 x1,p0 x0 x1/\p1 x0 x1/\p2 x0 x1/\p3 x0 x1/\p4 x0 x1/\p5 x0 x1/\p6 x0 x1)(k:∀x0 x1,p0 x0 x1->p1 x0 x1->p2 x0 x1->p3 x0 x1->p4 x0 x1->p5 x0 x1->p6 x0 x1->G):G:=h.elim λx0 h=>h.elim λx1 h=>k x0 x1 h.1 h.2.1 h.2.2.1 h.2.2.2.1 h.2.2.2.2.1 h.2.2.2.2.2.1 h.2.2.2.2.2.2
theorem AK{α β γ:Type}{P:α->β->γ->Prop}{G:Prop}(h:∃x0 x1 x2,P x0 x1 x2)(k:∀x0 x1 x2,P x0 x1 x2->G):G:=h.elim λx0 h=>h.elim λx1 h=>h.elim λx2 h=>k x0 x1 x2 h
theorem fY{α β γ:Type}{p0 p1:α->β->γ->Prop}{G:Prop}(h:∃x0 x1 x2,p0 x0 x1 x2/\p1 x0 x1 x2)(k:∀x0 x1 x2,p0 x0 x1 x2->p1 x0 x1 x2->G):G:=h.elim λx0 h=>h.elim λx1 h=>h.elim λx2 h=>k x0 x1 x2 h.1 h.2
theorem gQ{α β γ:Type}{p0 p1 p2:α->β->γ->Prop}{G:Prop}(h:∃x0 x1 x2,p0 x0 x1 x2/\p1 x0 x1 x2/\p2 x0 x1 x2)(k:∀x0 x1 x2,p0 x0 x1 x2->p1 x0 x1 x2->p2 x0 x1 x2->G):G:=h.elim λx0 h=>h.elim λx1 h=>h.elim λx2 h=>k x0 x1 x2 h.1 h.2.1 h.2.2
theorem eD{α β γ:Type}{p0 p1 p2 p3:α->β->γ->Prop}{G:Prop}(h:∃x0 x1 x2,p0 x0 x1 x2/\p1 x0 x1 x2/\p2 x0 x1 x2/\p3 x0 x1 x2)(k:∀x0 x1 x2,p0 x0 x1 x2->p1 x0 x1 x2->p2 x0 x1 x2->p3 x0 x1 x2->G):G:=h.elim λx0 h=>h.elim λx1 h=>h.elim λx2 h=>k x0 x1 x2 h.1 h.2.1 h.2.2.1 h.2.2.2
theorem fZ{α β γ:Type}{p0 p1 p2 p3 p4:α->β->γ->Prop}{G:Prop}(h:∃x0 x1 x2,p0 x0 x1 x2/\p1 x0 x1 x2/\p2 x0 x1 x2/\p3 x0 x1 x2/\p4 x0 x1 x2)(k:∀x0 x1 x2,p0 x0 x1 x2->p1 x0 x1 x2->p2 x0 x1 x2->p3 x0 x1 x2->p4 x0 x1 x2->G):G:=h.elim λx0 h=>h.elim λx1 h=>h.elim λx2 h=>k x0 x1 x2 h.1 h.2.1 h.2.2.1 h.2.2.2.1 h.2.2.2.2
theorem qK{α β γ:Type}{p0 p1 p2 p3 p4 p5:α->β->γ->Prop}{G:Prop}(h:∃x0 x1 x2,p0 x0 x1 x2/\p1 x0 x1 x2/\p2 x0 x1 x2/\p3 x0 x1 x2/\p4 x0 x1 x2/\p5 x0 x1 x2)(k:∀x0 x1 x2,p0 x0 x1 x2->p1 x0 x1 x2->p2 x0 x1 x2->p3 x0 x1 x2->p4 x0 x1 x2->p5 x0 x1 x2->G):G:=h.elim λx0 h=>h.elim λx1 h=>h.elim λx2 h=>k x0 x1 x2 h.1 h.2.1 h.2.2.1 h.2.2.2.1 h.2.2.2.2.1 h.2.2.2.2.2
theorem ye{α β γ δ:Type}{p0 p1 p2 p3:α->β->γ->δ->Prop}{G:Prop}(h:∃x0 x1 x2 x3,p0 x0 x1 x2 x3/\p1 x0 x1 x2 x3/\p2 x0 x1 x2 x3/\p3 x0 x1 x2 x3)(k:∀x0 x1 x2 x3,p0 x0 x1 x2 x3->p1 x0 x1 x2 x3->p2 x0 x1 x2 x3->p3 x0 x1 x2 x3->G):G:=h.elim λx0 h=>h.elim λx1 h=>h.elim λx2 h=>h.elim λx3 h=>k x0 x1 x2 x3 h.1 h.2.1 h.2.2.1 h.2.2.2
theorem AL{α β γ δ:Type}{p0 p1 p2 p3 p4:α->β->γ->δ->Prop}{G:Prop}(h:∃x0 x1 x2 x3,p0 x0 x1 x2 x3/\p1 x0 x1 x2 x3/\p2 x0 x1 x2 x3/\p3 x0 x1 x2 x3/\p4 x0 x1 x2 x3)(k:∀x0 x1 x2 x3,p0 x0 x1 x2 x3->p1 x0 x1 x2 x3->p2 x0 x1 x2 x3->p3 x0 x1 x2 x3->p4 x0 x1 x2 x3->G):G:=h.elim λx0 h=>h.elim λx1 h=>h.elim λx2 h=>h.elim λx3 h=>k x0 x1 x2 x3 h.1 h.2.1 h.2.2.1 h.2.2.2.1 h.2.2.2.2
theorem Iw{α β γ δ:Type}{p0 p1 p2 p3 p4 p5:α->β->γ->δ->Prop}{G:Prop}(h:∃x0 x1 x2 x3,p0 x0 x1 x2 x3/\p1 x0 x1 x2 x3/\p2 x0 x1 x2 x3/\p3 x0 x1 x2 x3/\p4 x0 x1 x2 x3/\p5 x0 x1 x2 x3)(k:∀x0 x1 x2 x3,p0 x0 x1 x2 x3->p1 x0 x1 x2 x3->p2 x0 x1 x2 x3->p3 x0 x1 x2 x3->p4 x0 x1 x2 x3->p5 x0 x1 x2 x3->G):G:=h.elim λx0 h=>h.elim λx1 h=>h.elim λx2 h=>h.elim λx3 h=>k x0 x1 x2 x3 h.1 h.2.1 h.2.2.1 h.2.2.2.1 h.2.2.2.2.1 h.2.2.2.2.2
theorem Iy{α β γ δ:Type}{p0 p1 p2 p3 p4 p5 p6:α->β->γ->δ->Prop}{G:Prop}(h:∃x0 x1 x2 x3,p0 x0 x1 x2 x3/\p1 x0 x1 x2 x3/\p2 x0 x1 x2 x3/\p3 x0 x1 x2 x3/\p4 x0 x1 x2 x3/\p5 x0 x1 x2 x3/\p6 x0 x1 x2 x3)(k:∀x0 x1 x2 x3,p0 x0 x1 x2 x3->p1 x0 x1 x2 x3->p2 x0 x1 x2 x3->p3 x0 x1 x2 x3->p4 x0 x1 x2 x3->p5 x0 x1 x2 x3->p6 x0 x1 x2 x3->G):G:=h.elim λx0 h=>h.elim λx1 h=>h.elim λx2 h=>h.elim λx3 h=>k x0 x1 x2 x3 h.1 h.2.1 h.2.2.1 h.2.2.2.1 h.2.2.2.2.1 h.2.2.2.2.2.1 h.2.2.2.2.2.2
theorem AM{α β γ δ ε:Type}{p0 p1 p2:α->β->γ->δ->ε->Prop}{G:Prop}(h:∃x0 x1 x2 x3 x4,p0 x0 x1 x2 x3 x4/\p1 x0 x1 x2 x3 x4/\p2 x0 x1 x2 x3 x4)(k:∀x0 x1 x2 x3 x4,p0 x0 x1 x2 x3 x4->p1 x0 x1 x2 x3 x4->p2 x0 x1 x2 x3 x4->G):G:=h.elim λx0 h=>h.elim λx1 h=>h.elim λx2 h=>h.elim λx3 h=>h.elim λx4 h=>k x0 x1 x2 x3 x4 h.1 h.2.1 h.2.2
theorem uf{α β γ δ ε:Type}{p0 p1 p2 p3 p4 p5 p6:α->β->γ->δ->ε->Prop}{G:Prop}(h:∃x0 x1 x2 x3 x4,p0 x0 x1 x2 x3 x4/\p1 x0 x1 x2 x3 x4/\p2 x0 x1 x2 x3 x4/\p3 x0 x1 x2 x3 x4/\p4 x0 x1 x2 x3 x4/\p5 x0 x1 x2 x3 x4/\p6 x0 x1 x2 x3 x4)(k:∀x0 x1 x2 x3 x4,p0 x0 x1 x2 x3 x4->p1 x0 x1 x2 x3 x4->p2 x0 x1 x2 x3 x4->p3 x0 x1 x2 x3 x4->p4 x0 x1 x2 x3 x4->p5 x0 x1 x2 x3 x4->p6 x0 x1 x2 x3 x4->G):G:=h.elim λx0 h=>h.elim λx1 h=>h.elim λx2 h=>h.elim λx3 h=>h.elim λx4 h=>k x0 x1 x2 x3 x4 h.1 h.2.1 h.2.2.1 h.2.2.2.1 h.2.2.2.2.1 h.2.2.2.2.2.1 h.2.2.2.2.2.2
theorem Iz{α β γ δ ε ζ:Type}{p0 p1:α->β->γ->δ->ε->ζ->Prop}{G:Prop}(h:∃x0 x1 x2 x3 x4 x5,p0 x0 x1 x2 x3 x4 x5/\p1 x0 x1 x2 x3 x4 x5)(k:∀x0 x1 x2 x3 x4 x5,p0 x0 x1 x2 x3 x4 x5->p1 x0 x1 x2 x3 x4 x5->G):G:=h.elim λx0 h=>h.elim λx1 h=>h.elim λx2 h=>h.elim λx3 h=>h.elim λx4 h=>h.elim λx5 h=>k x0 x1 x2 x3 x4 x5 h.1 h.2
theorem Fj{α β γ δ ε ζ:Type}{p0 p1 p2:α->β->γ->δ->ε->ζ->Prop}{G:Prop}(h:∃x0 x1 x2 x3 x4 x5,p0 x0 x1 x2 x3 x4 x5/\p1 x0 x1 x2 x3 x4 x5/\p2 x0 x1 x2 x3 x4 x5)(k:∀x0 x1 x2 x3 x4 x5,p0 x0 x1 x2 x3 x4 x5->p1 x0 x1 x2 x3 x4 x5->p2 x0 x1 x2 x3 x4 x5->G):G:=h.elim λx0 h=>h.elim λx1 h=>h.elim λx2 h=>h.elim λx3 h=>h.elim λx4 h=>h.elim λx5 h=>k x0 x1 x2 x3 x4 x5 h.1 h.2.1 h.2.2
theorem yf{α β γ δ ε ζ:Type}{p0 p1 p2 p3:α->β->γ->δ->ε->ζ->Prop}{G:Prop}(h:∃x0 x1 x2 x3 x4 x5,p0 x0 x1 x2 x3 x4 x5/\p1 x0 x1 x2 x3 x4 x5/\p2 x0 x1 x2 x3 x4 x5/\p3 x0 x1 x2 x3 x4 x5)(k:∀x0 x1 x2 x3 x4 x5,p0 x0 x1 x2 x3 x4 x5->p1 x0 x1 x2 x3 x4 x5->p2 x0 x1 x2 x3 x4 x5->p3 x0 x1 x2 x3 x4 x5->G):G:=h.elim λx0 h=>h.elim λx1 h=>h.elim λx2 h=>h.elim λx3 h=>h.elim λx4 h=>h.elim λx5 h=>k x0 x1 x2 x3 x4 x5 h.1 h.2.1 h.2.2.1 h.2.2.2
theorem IA{α β γ δ ε ζ:Type}{p0 p1 p2 p3 p4 p5:α->β->γ->δ->ε->ζ->Prop}{G:Prop}(h:∃x0 x1 x2 x3 x4 x5,p0 x0 x1 x2 x3 x4 x5/\p1 x0 x1 x2 x3 x4 x5/\p2 x0 x1 x2 x3 x4 x5/\p3 x0 x1 x2 x3 x4 x5/\p4 x0 x1 x2 x3 x4 x5/\p5 x0 x1 x2 x3 x4 x5)(k:∀x0 x1 x2 x3 x4 x5,p0 x0 x1 x2 x3 x4 x5->p1 x0 x1 x2 x3 x4 x5->p2 x0 x1 x2 x3 x4 x5->p3 x0 x1 x2 x3 x4 x5->p4 x0 x1 x2 x3 x4 x5->p5 x0 x1 x2 x3 x4 x5->G):G:=h.elim λx0 h=>h.elim λx1 h=>h.elim λx2 h=>h.elim λx3 h=>h.elim λx4 h=>h.elim λx5 h=>k x0 x1 x2 x3 x4 x5 h.1 h.2.1 h.2.2.1 h.2.2.2.1 h.2.2.2.2.1 h.2.2.2.2.2
theorem IB{α β γ δ ε ζ:Type}{p0 p1 p2 p3 p4 p5 p6:α->β->γ->δ->ε->ζ->Prop}{G:Prop}(h:∃x0 x1 x2 x3 x4 x5,p0 x0 x1 x2 x3 x4 x5/\p1 x0 x1 x2 x3 x4 x5/\p2 x0 x1 x2 x3 x4 x5/\p3 x0 x1 x2 x3 x4 x5/\p4 x0 x1 x2 x3 x4 x5/\p5 x0 x1 x2 x3 x4 x5/\p6 x0 x1 x2 x3 x4 x5)(k:∀x0 x1 x2 x3 x4 x5,p0 x0 x1 x2 x3 x4 x5->p1 x0 x1 x2 x3 x4 x5->p2 x0 x1 x2 x3 x4 x5->p3 x0 x1 x2 x3 x4 x5->p4 x0 x1 x2 x3 x4 x5->p5 x0 x1 x2 x3 x4 x5->p6 x0 x1 x2 x3 x4 x5->G):G:=h.elim λx0 h=>h.elim λx1 h=>h.elim λx2 h=>h.elim λx3 h=>h.elim λx4 h=>h.elim λx5 h=>k x0 x1 x2 x3 x4 x5 h.1 h.2.1 h.2.2.1 h.2.2.2.1 h.2.2.2.2.1 h.2.2.2.2.2.1 h.2.2.2.2.2.2
theorem ft{G:Prop}(h:false=true):G:=nomatch h
theorem tf{G:Prop}(h:true=false):G:=nomatch h
theorem ns{α:Type _}{a:α}{G:Prop}(h:none=some a):G:=nomatch h
theorem sn{α:Type _}{a:α}{G:Prop}(h:some a=none):G:=nomatch h
theorem kW{α:Type}{w:Nat}{a:α}{s:St}{G:Prop}(h:R.no w=R.ok a s):G:=nomatch h
theorem Fl{α:Type}{w:Nat}{a:α}{s s':St}{G:Prop}(h:R.ez w s=R.ok a s'):G:=nomatch h
theorem IC{α:Type}{w k:Nat}{s:St}{G:Prop}(h:(R.no w:R α)=R.ez k s):G:=nomatch h
theorem OW{α:Type}{k:Nat}{a:α}{s s':St}{G:Prop}(h:R.ok a s=R.ez k s'):G:=nomatch h
theorem OX{α β:Type _}{a b:α}{c d:β}(h:some (a,c)=some (b,d)):a=b/\c=d:=by cases h;exact⟨rfl,rfl⟩
theorem F8{α β:Type _}{a b:α}{c d:β}(h:some (some (a,c))=some (some (b,d))):a=b/\c=d:=by cases h;exact⟨rfl,rfl⟩
theorem cJ{α:Type _}{G:Prop}(o:Option α)(h1:o=none->G)(h2:∀v,o=some v->G):G:=match o,h1,h2 with|none,h,_=>h rfl|some v,_,h=>h v rfl
theorem cy{G:Prop}(b:Bool)(h1:b=false->G)(h2:b=true->G):G:=match b,h1,h2 with|false,h,_=>h rfl|true,_,h=>h rfl
@[elab_as_elim] theorem OY {α β:Type _} {C:α->β->Prop} {a b:α} {c d:β} (h:some (a,c)=some (b,d)) (k:C a c):C b d:=by cases h;exact k
@[elab_as_elim] theorem PC {α:Type} {C:α->St->Prop} {a b:α} {s s':St} (h:R.ok a s=R.ok b s') (k:C a s):C b s':=by cases h;exact k
theorem j2{p0 p1 p2:Prop}(h0:p0)(h1:p1)(h2:p2):p0/\p1/\p2:=⟨h0,h1,h2⟩
theorem Ia{p0 p1 p2 p3:Prop}(h0:p0)(h1:p1)(h2:p2)(h3:p3):p0/\p1/\p2/\p3:=⟨h0,h1,h2,h3⟩
theorem Ib{p0 p1 p2 p3 p4:Prop}(h0:p0)(h1:p1)(h2:p2)(h3:p3)(h4:p4):p0/\p1/\p2/\p3/\p4:=⟨h0,h1,h2,h3,h4⟩
theorem LC{p0 p1 p2 p3 p4 p5 p6 p7:Prop}(h0:p0)(h1:p1)(h2:p2)(h3:p3)(h4:p4)(h5:p5)(h6:p6)(h7:p7):p0/\p1/\p2/\p3/\p4/\p5/\p6/\p7:=⟨h0,h1,h2,h3,h4,h5,h6,h7⟩
theorem ag{α:Type}{p0 p1:α->Prop}(a0:α)(h0:p0 a0)(h1:p1 a0):∃x0,p0 x0/\p1 x0:=⟨a0,h0,h1⟩
theorem bk{α:Type}{p0 p1 p2:α->Prop}(a0:α)(h0:p0 a0)(h1:p1 a0)(h2:p2 a0):∃x0,p0 x0/\p1 x0/\p2 x0:=⟨a0,h0,h1,h2⟩
theorem iH{α:Type}{p0 p1 p2 p3:α->Prop}(a0:α)(h0:p0 a0)(h1:p1 a0)(h2:p2 a0)(h3:p3 a0):∃x0,p0 x0/\p1 x0/\p2 x0/\p3 x0:=⟨a0,h0,h1,h2,h3⟩
theorem ID{α:Type}{p0 p1 p2 p3 p4:α->Prop}(a0:α)(h0:p0 a0)(h1:p1 a0)(h2:p2 a0)(h3:p3 a0)(h4:p4 a0):∃x0,p0 x0/\p1 x0/\p2 x0/\p3 x0/\p4 x0:=⟨a0,h0,h1,h2,h3,h4⟩
theorem gb{α β:Type}{P:α->β->Prop}(a0:α)(a1:β)(h0:P a0 a1):∃x0 x1,P x0 x1:=⟨a0,a1,h0⟩
theorem bW{α β:Type}{p0 p1:α->β->Prop}(a0:α)(a1:β)(h0:p0 a0 a1)(h1:p1 a0 a1):∃x0 x1,p0 x0 x1/\p1 x0 x1:=⟨a0,a1,h0,h1⟩
theorem bQ{α β:Type}{p0 p1 p2:α->β->Prop}(a0:α)(a1:β)(h0:p0 a0 a1)(h1:p1 a0 a1)(h2:p2 a0 a1):∃x0 x1,p0 x0 x1/\p1 x0 x1/\p2 x0 x1:=⟨a0,a1,h0,h1,h2⟩
theorem cZ{α β:Type}{p0 p1 p2 p3:α->β->Prop}(a0:α)(a1:β)(h0:p0 a0 a1)(h1:p1 a0 a1)(h2:p2 a0 a1)(h3:p3 a0 a1):∃x0 x1,p0 x0 x1/\p1 x0 x1/\p2 x0 x1/\p3 x0 x1:=⟨a0,a1,h0,h1,h2,h3⟩
theorem jB{α β:Type}{p0 p1 p2 p3 p4:α->β->Prop}(a0:α)(a1:β)(h0:p0 a0 a1)(h1:p1 a0 a1)(h2:p2 a0 a1)(h3:p3 a0 a1)(h4:p4 a0 a1):∃x0 x1,p0 x0 x1/\p1 x0 x1/\p2 x0 x1/\p3 x0 x1/\p4 x0 x1:=⟨a0,a1,h0,h1,h2,h3,h4⟩
theorem IE{α β:Type}{p0 p1 p2 p3 p4 p5:α->β->Prop}(a0:α)(a1:β)(h0:p0 a0 a1)(h1:p1 a0 a1)(h2:p2 a0 a1)(h3:p3 a0 a1)(h4:p4 a0 a1)(h5:p5 a0 a1):∃x0 x1,p0 x0 x1/\p1 x0 x1/\p2 x0 x1/\p3 x0 x1/\p4 x0 x1/\p5 x0 x1:=⟨a0,a1,h0,h1,h2,h3,h4,h5⟩
theorem Fm{α β:Type}{p0 p1 p2 p3 p4 p5 p6:α->β->Prop}(a0:α)(a1:β)(h0:p0 a0 a1)(h1:p1 a0 a1)(h2:p2 a0 a1)(h3:p3 a0 a1)(h4:p4 a0 a1)(h5:p5 a0 a1)(h6:p6 a0 a1):∃x0 x1,p0 x0 x1/\p1 x0 x1/\p2 x0 x1/\p3 x0 x1/\p4 x0 x1/\p5 x0 x1/\p6 x0 x1:=⟨a0,a1,h0,h1,h2,h3,h4,h5,h6⟩
theorem IF{α β:Type}{p0 p1 p2 p3 p4 p5 p6 p7:α->β->Prop}(a0:α)(a1:β)(h0:p0 a0 a1)(h1:p1 a0 a1)(h2:p2 a0 a1)(h3:p3 a0 a1)(h4:p4 a0 a1)(h5:p5 a0 a1)(h6:p6 a0 a1)(h7:p7 a0 a1):∃x0 x1,p0 x0 x1/\p1 x0 x1/\p2 x0 x1/\p3 x0 x1/\p4 x0 x1/\p5 x0 x1/\p6 x0 x1/\p7 x0 x1:=⟨a0,a1,h0,h1,h2,h3,h4,h5,h6,h7⟩
theorem nJ{α β γ:Type}{P:α->β->γ->Prop}(a0:α)(a1:β)(a2:γ)(h0:P a0 a1 a2):∃x0 x1 x2,P x0 x1 x2:=⟨a0,a1,a2,h0⟩
theorem lU{α β γ:Type}{p0 p1:α->β->γ->Prop}(a0:α)(a1:β)(a2:γ)(h0:p0 a0 a1 a2)(h1:p1 a0 a1 a2):∃x0 x1 x2,p0 x0 x1 x2/\p1 x0 x1 x2:=⟨a0,a1,a2,h0,h1⟩
theorem Fo{α β γ:Type}{p0 p1 p2:α->β->γ->Prop}(a0:α)(a1:β)(a2:γ)(h0:p0 a0 a1 a2)(h1:p1 a0 a1 a2)(h2:p2 a0 a1 a2):∃x0 x1 x2,p0 x0 x1 x2/\p1 x0 x1 x2/\p2 x0 x1 x2:=⟨a0,a1,a2,h0,h1,h2⟩
theorem qL{α β γ:Type}{p0 p1 p2 p3:α->β->γ->Prop}(a0:α)(a1:β)(a2:γ)(h0:p0 a0 a1 a2)(h1:p1 a0 a1 a2)(h2:p2 a0 a1 a2)(h3:p3 a0 a1 a2):∃x0 x1 x2,p0 x0 x1 x2/\p1 x0 x1 x2/\p2 x0 x1 x2/\p3 x0 x1 x2:=⟨a0,a1,a2,h0,h1,h2,h3⟩
theorem ug{α β γ:Type}{p0 p1 p2 p3 p4:α->β->γ->Prop}(a0:α)(a1:β)(a2:γ)(h0:p0 a0 a1 a2)(h1:p1 a0 a1 a2)(h2:p2 a0 a1 a2)(h3:p3 a0 a1 a2)(h4:p4 a0 a1 a2):∃x0 x1 x2,p0 x0 x1 x2/\p1 x0 x1 x2/\p2 x0 x1 x2/\p3 x0 x1 x2/\p4 x0 x1 x2:=⟨a0,a1,a2,h0,h1,h2,h3,h4⟩
theorem Fp{α β γ:Type}{p0 p1 p2 p3 p4 p5:α->β->γ->Prop}(a0:α)(a1:β)(a2:γ)(h0:p0 a0 a1 a2)(h1:p1 a0 a1 a2)(h2:p2 a0 a1 a2)(h3:p3 a0 a1 a2)(h4:p4 a0 a1 a2)(h5:p5 a0 a1 a2):∃x0 x1 x2,p0 x0 x1 x2/\p1 x0 x1 x2/\p2 x0 x1 x2/\p3 x0 x1 x2/\p4 x0 x1 x2/\p5 x0 x1 x2:=⟨a0,a1,a2,h0,h1,h2,h3,h4,h5⟩
theorem IG{α β γ δ:Type}{p0 p1 p2 p3:α->β->γ->δ->Prop}(a0:α)(a1:β)(a2:γ)(a3:δ)(h0:p0 a0 a1 a2 a3)(h1:p1 a0 a1 a2 a3)(h2:p2 a0 a1 a2 a3)(h3:p3 a0 a1 a2 a3):∃x0 x1 x2 x3,p0 x0 x1 x2 x3/\p1 x0 x1 x2 x3/\p2 x0 x1 x2 x3/\p3 x0 x1 x2 x3:=⟨a0,a1,a2,a3,h0,h1,h2,h3⟩
theorem yg{α β γ δ:Type}{p0 p1 p2 p3 p4:α->β->γ->δ->Prop}(a0:α)(a1:β)(a2:γ)(a3:δ)(h0:p0 a0 a1 a2 a3)(h1:p1 a0 a1 a2 a3)(h2:p2 a0 a1 a2 a3)(h3:p3 a0 a1 a2 a3)(h4:p4 a0 a1 a2 a3):∃x0 x1 x2 x3,p0 x0 x1 x2 x3/\p1 x0 x1 x2 x3/\p2 x0 x1 x2 x3/\p3 x0 x1 x2 x3/\p4 x0 x1 x2 x3:=⟨a0,a1,a2,a3,h0,h1,h2,h3,h4⟩
theorem IH{α β γ δ:Type}{p0 p1 p2 p3 p4 p5:α->β->γ->δ->Prop}(a0:α)(a1:β)(a2:γ)(a3:δ)(h0:p0 a0 a1 a2 a3)(h1:p1 a0 a1 a2 a3)(h2:p2 a0 a1 a2 a3)(h3:p3 a0 a1 a2 a3)(h4:p4 a0 a1 a2 a3)(h5:p5 a0 a1 a2 a3):∃x0 x1 x2 x3,p0 x0 x1 x2 x3/\p1 x0 x1 x2 x3/\p2 x0 x1 x2 x3/\p3 x0 x1 x2 x3/\p4 x0 x1 x2 x3/\p5 x0 x1 x2 x3:=⟨a0,a1,a2,a3,h0,h1,h2,h3,h4,h5⟩
theorem Fq{α β γ δ ε:Type}{p0 p1 p2:α->β->γ->δ->ε->Prop}(a0:α)(a1:β)(a2:γ)(a3:δ)(a4:ε)(h0:p0 a0 a1 a2 a3 a4)(h1:p1 a0 a1 a2 a3 a4)(h2:p2 a0 a1 a2 a3 a4):∃x0 x1 x2 x3 x4,p0 x0 x1 x2 x3 x4/\p1 x0 x1 x2 x3 x4/\p2 x0 x1 x2 x3 x4:=⟨a0,a1,a2,a3,a4,h0,h1,h2⟩
noncomputable def dF {α:Type _} (p:α->Bool) (o:Option α):Bool:=@Option.rec α (λzz=>Bool) false p o
noncomputable def mI {α:Type _} (p:α->Bool) (o:Option α):Bool:=@Option.rec α (λzz=>Bool) true p o
theorem aX{α:Type _}{p:α->Bool}{o:Option α}{G:Prop}(h:dF p o=true)(k:∀a,o=some a->p a=true->G):G:=by
 cases o with
 |none=>exact ft h|some a=>exact k a rfl h
theorem jl{α:Type _}{p:α->Bool}{o:Option α}{a:α}(h:mI p o=true)(e:o=some a):p a=true:=by rw[e] at h;exact h
theorem ae{a b:Bool}{G:Prop}(h:(a&&b)=true)(k:a=true->b=true->G):G:=k (aj h) (ab h)
theorem oe{a b:Bool}{G:Prop}(h:(a||b)=true)(k1:a=true->G)(k2:b=true->G):G:=by
 cases a with
 |true=>exact k1 rfl|false=>exact k2 h
theorem gE{α:Type _}{p:α->Bool}{l:List α}(h:l.all p=true){x:α}(m:x∈l):p x=true:=Rq.mp h x m
theorem F9{α:Type _}{p:α->Bool}{l:List α}{G:Prop}(h:l.any p=true)(k:∀x,x∈l->p x=true->G):G:=(List.any_eq_true.mp h).elim λx q=>k x q.1 q.2
theorem dd{p:Prop}{i:Decidable p}(h:decide p=true):p:=of_decide_eq_true h
theorem OZ{α:Type _} [BEq α] [LawfulBEq α]{a b c:α}(h:(a==b||a==c)=true):a=b\/a=c:=oe h (λh=>.inl (eq_of_beq h)) λh=>.inr (eq_of_beq h)
theorem v9{α:Type _} [BEq α] [LawfulBEq α]{l:List α}{a:α}(h:l.contains a=true):a∈l:=List.contains_iff_mem.mp h
theorem Ft{α:Type _} [BEq α] [LawfulBEq α]{l:List α}{a:α}(h:(!l.contains a)=true)(m:a∈l):False:=ft ((iV h).symm.trans (List.contains_iff_mem.mpr m))
theorem r6{α:Type _} [BEq α] [LawfulBEq α]{a b:α}(h:(!(a==b))=true)(e:a=b):False:=by rw[e] at h;exact ft ((show(!(b==b))=false by rw[beq_self_eq_true];rfl).symm.trans h)
noncomputable def MS (d:PySem.Data):Option PySem.FuncData:=match d with|.func fd=>some fd|_=>none
noncomputable def MT (d:PySem.Data):Option (Array PySem.Value):=match d with|.fields fd=>some fd|_=>none
theorem Ga{d:PySem.Data}{fd:PySem.FuncData}(h:MS d=some fd):d=.func fd:=by
 cases d
 case func=>exact congrArg PySem.Data.func (PD h)
 all_goals exact ns h
theorem Gb{d:PySem.Data}{fd:Array PySem.Value}(h:MT d=some fd):d=.fields fd:=by
 cases d
 case fields=>exact congrArg PySem.Data.fields (PD h)
 all_goals exact ns h
noncomputable def AN (p:PySem.FuncData->Bool) (o:Option PySem.Obj):Bool:=dF (λob=>dF p (MS ob.data)) o
theorem r7{p:PySem.FuncData->Bool}{o:Option PySem.Obj}{G:Prop}(h:AN p o=true)(k:∀oc od fd osl,o=some ⟨oc,od,.func fd,osl⟩->p fd=true->G):G:=
 aX h λob h1 h=>aX h λfd h2 h=>k ob.cls ob.dict fd ob.slots (h1.trans (congrArg (λd=>some (⟨ob.cls,ob.dict,d,ob.slots⟩:PySem.Obj)) (Ga h2))) h
theorem ul{a n c L:Nat}(h:a+12*n+100<L)(e:Nat.ble c 100=true):a+c<L:=PY (PN (RQ (P4 e) a) (Nat.add_le_add_right (Qz a _) 100)) h
theorem Gd{a c d L:Nat}(h:a+d<L)(e:Nat.ble c d=true):a+c<L:=PY (RQ (P4 e) a) h
theorem MU{a d L:Nat}(h:a+d<L):a<L:=PY (Qz a d) h
theorem Ge{a b d L:Nat}(h:a+b+d<L):a<L:=MU (MU h)
theorem MV{a n L:Nat}(h:a+12*n+100<L):a+1+12*n+92<L:=by omega
theorem MW{a n L:Nat}(h:a+12*(n+1)+92<L):a+3+12*n+100<L:=by omega
theorem MX{a n L:Nat}(h:a+3*(n+1)+1<L):a+1+3*n+3<L:=by omega
theorem LF{a d L:Nat}(h:a+d+1<L):a+1+d<L:=RC a d 1▸h
theorem II{a:Nat}(h:a<100000):a<=16777216:=PN (Qg h) (by decide)
theorem LG{a b c:Nat}(h:a<=b+1)(e:c=b)(h':c<100000):a<=16777216+1:=PN h (QQ (II (e▸h')))
theorem r8{a b:Nat}(e:a=b)(h:a<100000):b<=16777216:=e▸II h
theorem IJ{a b:Nat}(e:a+1=b)(h:a<100000):b<=16777216:=e▸PN h (by decide)
theorem LH{a:Nat}(h:a<=200000):a<=16777216:=PN h (by decide)
theorem LI{a b x y:Nat}(e:a=x)(e':b=y)(h:a+b<100000):x+y<=16777216:=e▸e'▸II h
theorem O0{a:Nat}(h:a<100000):(a:Int)<2^63:=Int.lt_of_lt_of_le (Ro.mpr h) (by decide)
theorem MY{a:Nat}(h:a<100000):¬(a:Int)≥2^63:=Int.not_le.mpr (O0 h)
theorem MZ{k:Int}(h:k.natAbs<1000000000): -1000000000<k/\k<1000000000:=by omega
theorem M0{k:Int}{a:Int}(h:k.natAbs<1000000000)(e:decide (a<=-1000000000)=true):a<k:=Int.lt_of_le_of_lt (of_decide_eq_true e) (MZ h).1
theorem M1{k:Int}{a:Int}(h:k.natAbs<1000000000)(e:decide (1000000000<=a)=true):k<a:=Int.lt_of_lt_of_le (MZ h).2 (of_decide_eq_true e)
theorem M3{k a b:Int}(h:k.natAbs<1000000000)(e:decide (a<=-1000000000)=true)(e':decide (1000000000<=b)=true):a<=k/\k<b:=⟨Int.le_of_lt (M0 h e),M1 h e'⟩
theorem Gf{k:Int}(h:k.natAbs<1000000000): -2^63<=k/\k<2^63:=M3 h (by decide) (by decide)
theorem LJ{k:Int}(h:k.natAbs<1000000000): -2^62<=k/\k<2^62:=M3 h (by decide) (by decide)
theorem IK{k:Int}(h:k.natAbs<1000000000): -2^64<k:=M0 h (by decide)
theorem IL{k:Int}(h:k.natAbs<1000000000):k<2^64:=M1 h (by decide)
theorem LK{k:Int}(h:k.natAbs<1000000000):¬k< -2^63:=Ru.mpr (Gf h).1
theorem LM{k:Int}(h:k.natAbs<1000000000):¬k≥2^63:=Int.not_le.mpr (Gf h).2
theorem LN{n k:Nat}(h:k<n):n-1-k<n:=by omega
theorem LP{n k:Nat}:n-1-k<=n:=PN (Nat.sub_le _ _) (Nat.sub_le _ _)
theorem AO{a b c:Nat}(h:b<=c)(hab:a<=b):a+(b-a)<=c:=(Nat.add_sub_cancel' hab).symm▸h
theorem DB{a b c:Nat}(h:b<=c)(hab:(a:Int)<b):a+(b-a)<=c:=AO h (Qg (Ro.mp hab))
theorem LQ{a b:Nat}(h:¬a<=b):b-a=0:=Q7 (Qg (Nat.lt_of_not_le h))
theorem IM{α:Type}{a b c d:α}(h:a=b)(h':b=c)(h'':c=d):a=d:=h.trans (h'.trans h'')
theorem Gg{j a b:Nat}(h:j<a)(e:a=b):j<b:=e▸h
theorem O1{j a b:Nat}(e:a=j)(h:a<=b):j<=b:=e▸h
theorem LR{a b c L:Nat}(h:a+(b+1)<L)(e:c<=a+1):c+b<L:=by omega
end
open PySem PySem.W PyProof.Rows
structure Gh where
 ar:List Addr
 bH:List Addr
structure SI where
 prog:Program
 w:World
 h0:Heap
 c9:List Addr
 nm:List Str
 cls:List Addr
 kS:Nat->FuncData->Prop
 iW:Nat->List Nat
 gens:Array GenState
 drawn:Drawn
 os:OsState
 K:Frag
 mg:Str->Option Value
 mb:Str->Option Value
 wg:Addr->Str
 fz:List Str
 cS:Str->Option (Addr×Str)
 r9:List Nat
noncomputable def SI.n (S:SI) (x:Nat):Str:=S.nm[x]?.getD ⟨#[]⟩
noncomputable def ak (s:List Nat):Str:=⟨s.toArray⟩
noncomputable def AP (g:Gh) (h:Heap) (fd:FuncData):Prop:=(∃c,fd.code=.ref c/\c∈g.bH/\h.CodeRec fd.code fd.qualname)/\(∀x y c,fd.closure.lookup x=some c->fd.closure.lookup y=some c->x=y)/\∀c∈fd.closure.map (·.2),c∈g.bH/\∃v,h.IsCell c v
noncomputable def cK (S:SI) (g:Gh) (h:Heap) (cl:List (Str×Addr)):List Nat->List Value->Prop
 |[],[]=>True|x::xs,v::vs=>(∃c,cl.lookup (S.n x)=some c/\c∈g.bH/\h.IsCell c (some v))/\cK S g h cl xs vs|_,_=>False
mutual
noncomputable def VR (S:SI) (g:Gh) (h:Heap):V->Value->Prop
 |.none,v=>v=.none|.bool b,v=>v=.bool b|.int i,v=>∃t,True/\v=.int i t|.str x,v=>∃t,True/\v=.str (ak x) t|.av vs,v=>∃a xs,v=.ref a/\h.IsTuple a xs/\aI S g h vs xs.toList|.ar n,v=>∃a,g.ar[n]?=some a/\v=.ref a|.bc c d,v=>∃a da ca,v=.ref a/\g.ar[d]?=some da/\S.cls[c]?=some ca/\h.get? a=some (instObj ca da)|.qE k du,v=>∃a oc od fd osl vs,v=.ref a/\h.get? a=some ⟨oc,od,.func fd,osl⟩/\S.kS k fd/\cK S g h fd.closure (S.iW k) vs/\aI S g h du vs/\AP g h fd|.cX vs,v=>∃a xs,v=.ref a/\a∉S.c9/\S.h0.IsList a xs/\aI S g h vs xs.toList
noncomputable def aI (S:SI) (g:Gh) (h:Heap):List V->List Value->Prop
 |[],vs=>vs=[]|a::as,vs=>∃b bs,vs=b::bs/\VR S g h a b/\aI S g h as bs
end
noncomputable def sa (o:Obj):Prop:=(o.cls=.type "tuple"/\∃xs n,o.data=.seq xs n)\/o.data=.plain\/∃fd,o.data=.func fd
structure Up (g:Gh) (h:Heap) (g':Gh) (h':Heap):Prop where
 ar:g.ar<+:g'.ar
 bH:∀c∈g.bH,c∈g'.bH
 pZ:∀a o,h.get? a=some o->sa o->h'.get? a=some o
 cell:∀c o,c∈g.bH->h.get? c=some o->h'.get? c=some o
structure aG (S:SI) (X:List Addr) (g:Gh) (h:Heap) (g':Gh) (h':Heap):Prop where
 ar:g.ar<+:g'.ar
 c7:∀a∈g'.ar,a∈g.ar\/h.get? a=none
 bH:∀c∈g.bH,c∈g'.bH
 dO:∀c∈g'.bH,c∈g.bH\/h.get? c=none
 live:∀a o,h.get? a=some o->∃o',h'.get? a=some o'
 pZ:∀a o,h.get? a=some o->sa o->h'.get? a=some o
 cell:∀c o,c∈g.bH->h.get? c=some o->h'.get? c=some o
 keep:∀a o,h.get? a=some o->a∉g.ar->a∉X->a∉S.c9->o.cls≠ .type "frame"->h'.get? a=some o
 c8:∀a o,h.get? a=some o->a∉g.ar->a∉X->a∉S.c9->∃sl,h'.get? a=some {o with slots:=sl}
variable{S:SI}{g g' g'':Gh}{h h' h'':Heap}{X Y:List Addr}
theorem aG.up(e:aG S X g h g' h'):Up g h g' h':=⟨e.ar,e.bH,e.pZ,e.cell⟩
theorem aG.refl:aG S X g h g h:=
 ⟨Q2 _,λzz x=>.inl x,λzz x=>x,λzz x=>.inl x,λzz o x=>⟨o,x⟩,λzz zz x zz=>x,λzz zz zz x=>x,λzz zz x zz zz zz zz=>x,λzz o x zz zz zz=>⟨o.slots,x⟩⟩
theorem aG.dG(a:aG S X g h g' h'){x:Addr}(q:h'.get? x=none):h.get? x=none:=by
 cases z:h.get? x with
 |none=>rfl|some o=>refine PW (a.live x o z) λo' y=>?_;replace y:=q.symm.trans y;exact ns y
theorem aG.trans(a:aG S X g h g' h')(b:aG S X g' h' g'' h''):aG S X g h g'' h'' where
 ar:=a.ar.trans b.ar
 c7:=λx hx=>by
  rcases b.c7 x hx with q|q
  .exact a.c7 x q
  .exact .inr (a.dG q)
 bH:=λc hc=>b.bH c (a.bH c hc)
 dO:=λx hx=>by
  rcases b.dO x hx with q|q
  .exact a.dO x q
  .exact .inr (a.dG q)
 live:=λx o q=>by obtain⟨o',q'⟩:=a.live x o q;exact b.live x o' q'
 pZ:=λx o q i=>b.pZ x o (a.pZ x o q i) i
 cell:=λc o m q=>b.cell c o (a.bH c m) (a.cell c o m q)
 keep:=λx o q n1 n2 n3 nf=>b.keep x o (a.keep x o q n1 n2 n3 nf) (λm=>by
  refine QK (a.c7 x m) (λz=>?_) λz=>?_
  .exact n1 z
  .replace q:=z.symm.trans q;exact ns q) n2 n3 nf
 c8:=λx o q n1 n2 n3=>by
  obtain⟨sl,e⟩:=a.c8 x o q n1 n2 n3;obtain⟨sl',e'⟩:=b.c8 x _ e (λm=>by
   refine QK (a.c7 x m) (λz=>?_) λz=>?_
   .exact n1 z
   .replace q:=z.symm.trans q;exact ns q) n2 n3
  exact⟨sl',e'⟩
theorem aG.eg(a:aG S X g h g' h')(hx:∀x∈X,x∈Y\/h.get? x=none):aG S Y g h g' h':=
 {a with
  keep:=λx o q n1 n2 n3 nf=>a.keep x o q n1 (λm=>by
   refine QK (hx x m) (λz=>?_) λz=>?_
   .exact n2 z
   .replace q:=z.symm.trans q;exact ns q) n3 nf
  c8:=λx o q n1 n2 n3=>a.c8 x o q n1 (λm=>by
   refine QK (hx x m) (λz=>?_) λz=>?_
   .exact n2 z
   .replace q:=z.symm.trans q;exact ns q) n3}
theorem aG.nil(a:aG S [] g h g' h'):aG S X g h g' h':=a.eg λzz m=>nomatch m
theorem Up.kc(e:Up g h g' h'){a:Addr}{xs:Array Value}(t:h.IsTuple a xs):h'.IsTuple a xs:=by obtain⟨o,ho,hc,n,hd⟩:=t;exact⟨o,e.pZ _ _ ho (.inl ⟨hc,_,_,hd⟩),hc,n,hd⟩
theorem Up.cells(e:Up g h g' h'){cl:List (Str×Addr)}:∀ {xs:List Nat} {vs:List Value},cK S g h cl xs vs->cK S g' h' cl xs vs
 |[],[],_=>trivial|x::xs,v::vs,⟨⟨c,h1,h2,o,ho,hd⟩,h4⟩=>⟨⟨c,h1,e.bH _ h2,o,e.cell _ _ h2 ho,hd⟩,e.cells h4⟩|[],_::_,x=>x.elim|_::_,[],x=>x.elim
theorem gf{α:Type}{l l':List α}{i:Nat}{a:α}(p:l<+:l')(e:l[i]?=some a):l'[i]?=some a:=by obtain⟨t,rfl⟩:=p;refine(List.getElem?_append_left (PX.mp e).1).trans ?_;exact e
mutual
theorem VR.up(e:Up g h g' h'):∀ {v:V} {x:Value},VR S g h v x->VR S g' h' v x
 |.none,_,q=>q|.bool _,_,q=>q|.int _,_,q=>q|.str _,_,q=>q|.av vs,_,q=>by obtain⟨a,xs,h1,h2,h3⟩:=q;exact⟨a,xs,h1,e.kc h2,aI.up e h3⟩
 |.ar _,_,q=>by obtain⟨a,h1,h2⟩:=q;exact⟨a,gf e.ar h1,h2⟩
 |.bc _ _,_,q=>by obtain⟨a,da,ca,h1,h2,h3,h4⟩:=q;exact⟨a,da,ca,h1,gf e.ar h2,h3,e.pZ _ _ h4 (.inr (.inl rfl))⟩
 |.qE k du,_,q=>by
  obtain⟨a,oc,od,fd,osl,vs,h1,h2,h3,h4,h5,⟨c,h6,h7,c',o,xs,t,h8,h9,h10⟩,h11,h12⟩:=q;refine⟨a,oc,od,fd,osl,vs,h1,e.pZ _ _ h2 (.inr (.inr ⟨fd,rfl⟩)),h3,e.cells h4,aI.up e h5,⟨c,h6,e.bH _ h7,c',o,xs,t,h8,e.cell _ _ ?_ h9,h10⟩,h11,λz m=>?_⟩
  .rw[h6] at h8;cases h8;exact h7
  .obtain⟨k1,v,o',k2,k3⟩:=h12 z m;exact⟨e.bH _ k1,v,o',e.cell _ _ k1 k2,k3⟩
 |.cX vs,_,q=>by obtain⟨a,xs,h1,h2,h3,h4⟩:=q;exact⟨a,xs,h1,h2,h3,aI.up e h4⟩
theorem aI.up(e:Up g h g' h'):∀ {v:List V} {x:List Value},aI S g h v x->aI S g' h' v x
 |[],_,q=>by exact q
 |a::as,_,q=>by obtain⟨b,bs,h1,h2,h3⟩:=q;exact⟨b,bs,h1,VR.up e h2,aI.up e h3⟩
end
theorem aG.kc(e:aG S X g h g' h'){a:Addr}{xs:Array Value}(t:h.IsTuple a xs):h'.IsTuple a xs:=e.up.kc t
theorem VR.ext(e:aG S X g h g' h'){v:V}{x:Value}(q:VR S g h v x):VR S g' h' v x:=VR.up e.up q
theorem aI.ext(e:aG S X g h g' h'){v:List V}{x:List Value}(q:aI S g h v x):aI S g' h' v x:=aI.up e.up q
theorem aI.length:∀ {vs:List V} {xs:List Value},aI S g h vs xs->vs.length=xs.length
 |[],_,q=>by subst q;rfl
 |a::as,_,q=>by refine aw q λb bs z2 zz h3=>?_;refine z2▸?_;simp[aI.length h3]
theorem aI.get:∀ {vs:List V} {xs:List Value} {i:Nat} {v:V},aI S g h vs xs->vs[i]?=some v->∃x,xs[i]?=some x/\VR S g h v x
 |[],_,_,_,_,e=>by simp at e
 |a::as,_,i,v,q,e=>by
  refine aw q λb bs z2 h2 h3=>?_;refine z2▸?_;cases i with
  |zero=>simp at e;subst e;exact ag b rfl h2|succ i=>simpa using h3.get (i:=i) (by simpa using e)
theorem aI.none:∀ {vs:List V} {xs:List Value} {i:Nat},aI S g h vs xs->vs[i]?=.none->xs[i]?=.none:=by intro vs xs i q e;have:=q.length;rw[List.getElem?_eq_none_iff] at e⊢;omega
theorem aI.dZ:∀ {vs ws:List V} {xs ys:List Value},aI S g h vs xs->aI S g h ws ys->aI S g h (vs++ws) (xs++ys)
 |[],_,_,_,q,r=>by subst q;exact r
 |a::as,_,_,_,q,r=>by refine aw q λb bs z2 h2 h3=>?_;refine z2▸?_;exact bQ b _ rfl h2 (h3.dZ r)
theorem aI.fU{v:V}{x:Value}(q:VR S g h v x):aI S g h [v] [x]:=by exact bQ x ([]) rfl q (by rfl)
theorem aI.nil:aI S g h [] []:=by rfl
theorem aI.cons{v:V}{x:Value}{vs:List V}{xs:List Value}(q:VR S g h v x)(r:aI S g h vs xs):aI S g h (v::vs) (x::xs):=by exact bQ x xs rfl q r
theorem aI.bI{v:V}{vs:List V}{xs:List Value}(q:aI S g h (v::vs) xs):∃x ys,xs=x::ys/\VR S g h v x/\aI S g h vs ys:=by exact q
theorem aI.fj{xs:List Value}(q:aI S g h [] xs):xs=[]:=by exact q
theorem aI.take:∀ {vs:List V} {xs:List Value} (n:Nat),aI S g h vs xs->aI S g h (vs.take n) (xs.take n)
 |[],_,n,q=>by rw[q.fj];simpa using aI.nil
 |a::as,_,n,q=>by
  refine aw q.bI λb bs z2 h2 h3=>?_;refine z2▸?_;cases n with
  |zero=>simpa using aI.nil|succ n=>simpa using aI.cons h2 (h3.take n)
theorem aI.drop:∀ {vs:List V} {xs:List Value} (n:Nat),aI S g h vs xs->aI S g h (vs.drop n) (xs.drop n)
 |[],_,n,q=>by rw[q.fj];simpa using aI.nil
 |a::as,_,n,q=>by
  refine aw q.bI λb bs z2 h2 h3=>?_;refine z2▸?_;cases n with
  |zero=>simpa using aI.cons h2 h3|succ n=>simpa using h3.drop n
theorem aI.set{v:V}{x:Value}(q:VR S g h v x):∀ {vs:List V} {xs:List Value} (n:Nat),aI S g h vs xs->aI S g h (vs.set n v) (xs.set n x)
 |[],_,n,r=>by refine r.fj.symm▸?_;simpa using aI.nil
 |a::as,_,n,r=>by
  refine aw r.bI λb bs z2 h2 h3=>?_;refine z2▸?_;cases n with
  |zero=>simpa using aI.cons q h3|succ n=>simpa using aI.cons h2 (aI.set q n h3)
end
section
open PySem PySem.W PyProof.Rows PySem.SeqAt
theorem bx{α:Type}(a b:List α):dZ a b=a++b:=by
 induction a with
 |nil=>rfl|cons x a ih=>refine(?_:x::dZ a b=_);simp only[ih];rfl
theorem DC{α:Type}(a:List α):∀n,F3 a n=n+a.length:=by
 induction a with
 |nil=>intro n;rfl|cons x a ih=>intro n;refine(?_:F3 a (n+1)=_);simp only[ih,Q3];exact RC _ _ _
theorem aJ{α:Type}(a:List α):len a=a.length:=by unfold len;rw[DC];exact Nat.zero_add _
theorem DD{α:Type}(a:List α):∀r,F4 a r=a.reverse++r:=by
 induction a with
 |nil=>intro r;rfl|cons x a ih=>intro r;refine(?_:F4 a (x::r)=_);simp only[ih];simp
theorem nK{α:Type}(a:List α):Fe a=a.reverse:=by unfold Fe;simp only[DD];simp
theorem eN{α:Type}(a:List α):∀n,take a n=a.take n:=by
 induction a with
 |nil=>intro n;simp;rfl|cons x a ih=>
  intro n;induction n with
  |zero=>rfl|succ n=>refine(?_:x::take a n=_);rw[ih];rfl
theorem eh{α:Type}(a:List α):∀n,drop a n=a.drop n:=by
 induction a with
 |nil=>intro n;simp;rfl|cons x a ih=>
  intro n;induction n with
  |zero=>rfl|succ n=>refine(?_:drop a n=_);rw[ih];rfl
theorem bz{α:Type}(a:List α):∀n,aZ a n=a[n]?:=by
 induction a with
 |nil=>intro n;simp;rfl|cons x a ih=>
  intro n;induction n with
  |zero=>rfl|succ n=>refine(?_:aZ a n=_);rw[ih];rfl
theorem AQ{α:Type}(v:α)(a:List α):∀n,ua v a n=a.set n v:=by
 induction a with
 |nil=>intro n;simp;rfl|cons x a ih=>
  intro n;induction n with
  |zero=>rfl|succ n=>refine(?_:x::ua v a n=_);rw[ih];rfl
theorem cD(a b:Nat):P8 a b=true↔a=b:=⟨Q8,λh=>h▸RL a⟩
theorem sd{a b:Nat}(h:a≠b):P8 a b=false:=by
 cases q:P8 a b with
 |false=>rfl|true=>exact absurd ((cD a b).mp q) h
theorem gh:∀(x y:List Nat),hJ x y=true↔x=y
 |[],[]=>⟨λzz=>rfl,λzz=>rfl⟩|[],b::y=>⟨λh=>(nomatch (show false=true from h)),λh=>(nomatch h)⟩|a::x,[]=>⟨λh=>(nomatch (show false=true from h)),λh=>(nomatch h)⟩|a::x,b::y=>by
  have e:hJ (a::x) (b::y)=PS false (hJ x y) (P8 a b):=rfl;refine e.symm▸?_;by_cases q:a=b
  .refine q▸?_;rw[RL];refine(gh x y).trans ?_;simp
  .refine(sd q).symm▸?_;simp[q]
theorem ej(a b:Int):kP a b=true↔a=b:=by
 induction a with
 |ofNat m=>cases b with
  |ofNat n=>refine(?_:P8 m n=true↔_);rw[cD];exact⟨λh=>(congrArg _ h),λh=>by cases h;rfl⟩|negSucc n=>refine(?_:false=true↔_);constructor<;>intro h<;>cases h
 |negSucc m=>cases b with
  |ofNat n=>refine(?_:false=true↔_);constructor<;>intro h<;>cases h
  |negSucc n=>refine(?_:P8 m n=true↔_);rw[cD];exact⟨λh=>(congrArg _ h),λh=>by cases h;rfl⟩
theorem ek(m n:Nat):QT m n=true↔m<n:=⟨λh=>P4 h,λh=>Nat.ble_eq_true_of_le h⟩
theorem de(a b:Int):gM a b=true↔a<b:=by
 induction a with
 |ofNat m=>induction b with
  |ofNat n=>refine(?_:QT m n=true↔_);rw[ek];exact by simp
  |negSucc n=>refine(?_:false=true↔_);constructor<;>intro h<;>first|exact nomatch h|(exfalso;have:(m:Int)<RR n:=h;omega)
 |negSucc m=>induction b with
  |ofNat n=>constructor<;>intro _<;>first|rfl|(show RR m<(n:Int);omega)
  |negSucc n=>refine(?_:QT n m=true↔_);rw[ek];omega
theorem se{b:Bool}{p:Prop} [Decidable p](h:b=true↔p):b=decide p:=by
 by_cases q:p
 .rw[decide_eq_true q];exact h.mpr q
 .rw[decide_eq_false q];cases z:b with
  |false=>rfl|true=>exact absurd (h.mp z) q
theorem wm(a b:Int):kP a b=(a==b):=by refine(se (ej a b)).trans ?_;rfl
theorem sf(a b:Int):gM a b=decide (a<b):=se (de a b)
theorem gR{x y:List Nat}(h:ak x=ak y):x=y:=by unfold ak at h;injection h with h;simpa using h
theorem wq(x y:List Nat):hJ x y=(ak x==ak y):=by
 by_cases q:x=y
 .subst q;refine((gh x x).mpr rfl).trans ?_;simp
 .have:¬ak x=ak y:=λe=>q (gR e);simp only[se (gh x y),decide_eq_false q];simp[this]
noncomputable def Gi (as bs:List V):Option Bool:=jk (.av as) (.av bs)
theorem DE(a b:V)(as bs:List V):Gi (a::as) (b::bs)=@Option.rec Bool (λzz=>Option Bool) .none (λr=>PS (some false) (Gi as bs) r) (jk a b):=rfl
noncomputable def bS (as:List V) (d:Nat):Bool:=bV (.av as) (d+1)
theorem eV(as:List V)(d:Nat):bV (.av as) (d+1)=bS as d:=rfl
theorem qM(as:List V):bV (.av as) 0=false:=rfl
theorem nL(a:V)(as:List V)(d:Nat):bS (a::as) d=PS false (bS as d) (bV a d):=rfl
theorem bL(a:V)(as:List V)(d:Nat):bS (a::as) d=true↔bV a d=true/\bS as d=true:=by
 simp only[nL];cases bV a d with
 |false=>simp|true=>simp
set_option tactic.hygienic true in
mutual
theorem sk:∀(a b:V) (d:Nat),bV a d=true->bV b d=true->∃r,jk a b=some r/\(r=true↔a=b)
 |.none,b,d,_,hb=>by cases b<;>first|exact ag _ rfl (by simp)|exact ft hb
 |.int x,b,d,_,hb=>by
  cases b<;>first|(exact ft hb;done)|skip
  .exact ag false rfl (by simp)
  .rename_i y;exact ag (kP x y) rfl (by rw[ej];simp)
  .exact ag false rfl (by simp)
  .exact ag false rfl (by simp)
 |.str x,b,d,_,hb=>by
  cases b<;>first|(exact ft hb;done)|skip
  .exact ag false rfl (by simp)
  .exact ag false rfl (by simp)
  .rename_i y;exact ag (hJ x y) rfl (by rw[gh];simp)
  .exact ag false rfl (by simp)
 |.av as,b,0,ha,_=>by exact ft ha
 |.av as,b,d+1,ha,hb=>by
  cases b<;>first|(exact ft hb;done)|skip
  .exact ag false rfl (by simp)
  .exact ag false rfl (by simp)
  .exact ag false rfl (by simp)
  .rename_i bs;obtain⟨r,h1,h2⟩:=uh as bs d (by rw[<-eV];exact ha) (by rw[<-eV];exact hb);exact ag r h1 (by rw[h2];simp)
 |.bool _,_,_,ha,_=>by exact ft ha
 |.ar _,_,_,ha,_=>by exact ft ha
 |.bc _ _,_,_,ha,_=>by exact ft ha
 |.qE _ _,_,_,ha,_=>by exact ft ha
 |.cX _,_,_,ha,_=>by exact ft ha
theorem uh:∀(as bs:List V) (d:Nat),bS as d=true->bS bs d=true->∃r,Gi as bs=some r/\(r=true↔as=bs)
 |[],[],d,_,_=>ag true rfl (by simp)|[],b::bs,d,_,_=>ag false rfl (by simp)|a::as,[],d,_,_=>ag false rfl (by simp)|a::as,b::bs,d,ha,hb=>by
  obtain⟨ha1,ha2⟩:=(bL a as d).mp ha;obtain⟨hb1,hb2⟩:=(bL b bs d).mp hb;obtain⟨r,h1,h2⟩:=sk a b d ha1 hb1;obtain⟨q,h3,h4⟩:=uh as bs d ha2 hb2;rw[DE,h1];clear h1 hb2 hb1 ha2 ha1 hb ha;induction r with
  |false=>
   refine ag false rfl ?_;constructor
   .intro h;exact ft h
   .intro h;injection h with e1 e2;exact absurd (h2.mpr e1) (by simp)
  |true=>refine ag q h3 ?_;rw[h4];have:=h2.mp rfl;refine this▸?_;simp
end
noncomputable def j3 (a b:V):Bool:=(jk a b).getD false
theorem dg{a b:V}{d:Nat}(ha:bV a d=true)(hb:bV b d=true):j3 a b=true↔a=b:=by refine aa (sk a b d ha hb) λr h1 h2=>?_;unfold j3;refine h1.symm▸?_;exact h2
theorem m7{a b:V}{d:Nat}(ha:bV a d=true)(hb:bV b d=true):jk a b=some (j3 a b):=by refine aa (sk a b d ha hb) λr h1 h2=>?_;unfold j3;refine h1.symm▸?_;rfl
variable{S:SI}{g:Gh}
set_option tactic.hygienic true in
mutual
theorem VR.fn{h:Heap}:∀ {a b:V} {x:Value} {d:Nat},bV a d=true->bV b d=true->VR S g h a x->VR S g h b x->a=b
 |.none,b,x,d,_,hb,qa,qb=>by subst qa;cases b<;>first|rfl|(exact ft hb;done)|(obtain⟨_,_,e⟩:=qb;cases e;done)|(obtain⟨_,_,e,_⟩:=qb;cases e;done)
 |.int i,b,x,d,_,hb,qa,qb=>by obtain⟨t,ht,rfl⟩:=qa;cases b<;>first|(exact ft hb;done)|(cases qb;done)|(obtain⟨_,_,e⟩:=qb;cases e;first|rfl|done)|(obtain⟨_,_,e,_⟩:=qb;cases e;done)
 |.str y,b,x,d,_,hb,qa,qb=>by obtain⟨t,ht,rfl⟩:=qa;cases b<;>first|(exact ft hb;done)|(cases qb;done)|(obtain⟨_,_,e⟩:=qb;simp at e;done)|(obtain⟨_,_,e⟩:=qb;injection e with e1 _;rw[gR e1];done)|(obtain⟨_,_,e,_⟩:=qb;cases e;done)
 |.av as,b,x,0,ha,_,_,_=>by exact ft ha
 |.av as,b,x,d+1,ha,hb,qa,qb=>by
  obtain⟨a,xs,rfl,⟨o,ho,hc,n,hd⟩,q⟩:=qa;cases b<;>first|(exact ft hb;done)|(cases qb;done)|(obtain⟨_,_,e⟩:=qb;cases e;done)|skip
  rename_i bs;obtain⟨a',xs',e,⟨o',ho',hc',n',hd'⟩,q'⟩:=qb;clear hc' hc;cases e;have:o=o':=PD (ho.symm.trans ho');clear ho' ho;subst this;rw[hd] at hd';injection hd' with h1 _;subst h1;rw[aI.fn (d:=d) (by rw[<-eV];exact ha) (by rw[<-eV];exact hb) q q']
 |.bool _,_,_,_,ha,_,_,_=>by exact ft ha
 |.ar _,_,_,_,ha,_,_,_=>by exact ft ha
 |.bc _ _,_,_,_,ha,_,_,_=>by exact ft ha
 |.qE _ _,_,_,_,ha,_,_,_=>by exact ft ha
 |.cX _,_,_,_,ha,_,_,_=>by exact ft ha
theorem aI.fn{h:Heap}:∀ {as bs:List V} {xs:List Value} {d:Nat},bS as d=true->bS bs d=true->aI S g h as xs->aI S g h bs xs->as=bs
 |[],bs,xs,d,_,_,qa,qb=>by
  rw[qa.fj] at qb;induction bs with
  |nil=>rfl|cons b bs=>obtain⟨_,_,e,_⟩:=qb.bI;cases e
 |a::as,bs,xs,d,ha,hb,qa,qb=>by
  obtain⟨x,ys,rfl,h1,h2⟩:=qa.bI;induction bs with
  |nil=>have:=qb.fj;cases this
  |cons b bs=>obtain⟨x',ys',e,h3,h4⟩:=qb.bI;cases e;obtain⟨ha1,ha2⟩:=(bL a as d).mp ha;obtain⟨hb1,hb2⟩:=(bL b bs d).mp hb;rw[VR.fn ha1 hb1 h1 h3,aI.fn ha2 hb2 h2 h4]
end
theorem cw{as:List V}{d:Nat}(h:bS as d=true):∀ {i:Nat} {a:V},as[i]?=some a->bV a d=true:=by
 induction as with
 |nil=>intro i a e;simp at e|cons b as ih=>
  intro i a e;refine dw ((bL b as d).mp h) λh1 h2=>?_;induction i with
  |zero=>simp at e;subst e;exact h1|succ i=>exact ih h2 (by simpa using e)
theorem hM(as bs:List V)(d:Nat)(ha:bS as d=true)(hb:bS bs d=true):
  ((RA (min as.length bs.length)).all (λj=>j3 (as.getD j .none) (bs.getD j .none))&&as.length==bs.length)=j3 (.av as) (.av bs):=by
 have key:j3 (.av as) (.av bs)=true↔as=bs:=by refine(dg (d:=d+1) (by skip;exact ha) (by skip;exact hb)).trans ?_;simp
 rw[QJ,key,QP,Rq,beq_iff_eq];constructor
 .rintro⟨h1,h2⟩;refine List.ext_getElem h2 λj p1 p2=>?_;have z:=h1 j (RF.mpr (Nat.lt_min.mpr ⟨p1,p2⟩));simp only[Qb,Qb,PK p1,PK p2] at z;exact(dg (cw ha (PK p1)) (cw hb (PK p2))).mp z
 .clear key hb;rintro rfl;refine⟨λj hj=>?_,rfl⟩;have hj:=RF.mp hj;have p1:j<as.length:=by exact by simpa using hj
  rw[Qb,PK p1];exact(dg (cw ha (PK p1)) (cw ha (PK p1))).mpr rfl
set_option tactic.hygienic true in
theorem kg:∀(d:Nat) {A:Around} {sh:Shared} {a b:V} {x y:Value},A.units+d<cLine->bV a d=true->bV b d=true->VR S g sh.heap a x->VR S g sh.heap b y->
  EqAt A sh x y (j3 a b):=by
 intro d;induction d with
 |zero=>
  intro A sh a b x y hu ha hb qa qb;cases a<;>first|(exact ft ha;done)|skip
  all_goals cases b<;>first|(exact ft hb;done)|skip
  all_goals unfold VR at qa qb
  .subst qa qb;exact EqAt.same _
  .subst qa;obtain⟨_,_,rfl⟩:=qb;exact EqAt.none_int _ _
  .subst qa;obtain⟨_,_,rfl⟩:=qb;exact EqAt.none_str _ _
  .subst qb;obtain⟨_,_,rfl⟩:=qa;exact EqAt.int_none _ _
  .obtain⟨_,_,rfl⟩:=qa;obtain⟨_,_,rfl⟩:=qb;rename_i p q _ _ _ _;have:=EqAt.int_int (A:=A) (s:=sh) p;rw[show j3 (.int p) (.int q)=(p==q) from wm p q];exact EqAt.int_int _ _ _ _
  .obtain⟨_,_,rfl⟩:=qa;obtain⟨_,_,rfl⟩:=qb;exact EqAt.int_str _ _ _ _
  .subst qb;obtain⟨_,_,rfl⟩:=qa;exact EqAt.str_none _ _
  .obtain⟨_,_,rfl⟩:=qa;obtain⟨_,_,rfl⟩:=qb;exact EqAt.str_int _ _ _ _
  .obtain⟨_,_,rfl⟩:=qa;obtain⟨_,_,rfl⟩:=qb;rename_i p q _ _ _ _;rw[show j3 (.str p) (.str q)=(ak p==ak q) from wq p q];exact EqAt.str_str _ _ _ _
 |succ d ih=>
  intro A sh a b x y hu ha hb qa qb;have hu':A.units<cLine:=(PY (Qz _ _) hu);cases a<;>first|(cases ha;done)|skip
  all_goals cases b<;>first|(cases hb;done)|skip
  all_goals unfold VR at qa qb
  .subst qa qb;exact EqAt.same _
  .subst qa;obtain⟨_,_,rfl⟩:=qb;exact EqAt.none_int _ _
  .subst qa;obtain⟨_,_,rfl⟩:=qb;exact EqAt.none_str _ _
  .subst qa;obtain⟨_,_,rfl,ht,_⟩:=qb;exact EqAt.none_tuple ht hu'
  .subst qb;obtain⟨_,_,rfl⟩:=qa;exact EqAt.int_none _ _
  .obtain⟨_,_,rfl⟩:=qa;obtain⟨_,_,rfl⟩:=qb;rename_i p q _ _ _ _;refine(show j3 (.int p) (.int q)=(p==q) from wm p q).symm▸?_;exact EqAt.int_int _ _ _ _
  .obtain⟨_,_,rfl⟩:=qa;obtain⟨_,_,rfl⟩:=qb;exact EqAt.int_str _ _ _ _
  .obtain⟨_,_,rfl⟩:=qa;obtain⟨_,_,rfl,ht,_⟩:=qb;exact EqAt.int_tuple _ _ ht hu'
  .subst qb;obtain⟨_,_,rfl⟩:=qa;exact EqAt.str_none _ _
  .obtain⟨_,_,rfl⟩:=qa;obtain⟨_,_,rfl⟩:=qb;exact EqAt.str_int _ _ _ _
  .obtain⟨_,_,rfl⟩:=qa;obtain⟨_,_,rfl⟩:=qb;rename_i p q _ _ _ _;simp only[show j3 (.str p) (.str q)=(ak p==ak q) from wq p q];exact EqAt.str_str _ _ _ _
  .obtain⟨_,_,rfl⟩:=qa;obtain⟨_,_,rfl,ht,_⟩:=qb;exact EqAt.str_tuple _ _ ht hu'
  .subst qb;obtain⟨_,_,rfl,ht,_⟩:=qa;exact EqAt.tuple_none ht hu'
  .obtain⟨_,_,rfl⟩:=qb;obtain⟨_,_,rfl,ht,_⟩:=qa;exact EqAt.tuple_int _ _ ht hu'
  .obtain⟨_,_,rfl⟩:=qb;obtain⟨_,_,rfl,ht,_⟩:=qa;exact EqAt.tuple_str _ _ ht hu'
  .rename_i as bs;have ha':bS as d=true:=by rw[<-eV];exact ha
   have hb':bS bs d=true:=by rw[<-eV];exact hb
   have qa0:=qa;have qb0:=qb;obtain⟨l,xs,rfl,ht,q1⟩:=qa;refine aw qb λm ys z2 ht' q2=>?_;obtain rfl:=z2;by_cases hlm:l=m
   .subst hlm;have:V.av as=V.av bs:=VR.fn ha hb (qa0) (qb0);simp only[(dg ha hb).mpr this];exact EqAt.same _
   .refine EqAt.of_refs hlm ?_;have l1:=q1.length;have l2:=q2.length;have z:=RcAt.tuples (A:=A) (s:=sh) (e:=λj=>j3 (as.getD j .none) (bs.getD j .none)) ht ht' hu' (λj h1 h2=>by
     have p1:j<as.length:=by simp only[l1];simpa using h1
     have p2:j<bs.length:=by simp only[l2];simpa using h2
     refine aa (q1.get (PK p1)) λu hu1 hu2=>?_;refine aa (q2.get (PK p2)) λv hv1 hv2=>?_;have e1:xs[j]=u:=by
      have:xs.toList[j]?=some xs[j]:=by simp[h1]
      replace this:=hu1.symm.trans this;exact(PD this).symm
     have e2:ys[j]=v:=by
      have:ys.toList[j]?=some ys[j]:=by simp[h2]
      simp only[hv1] at this;exact(PD this).symm
     simp only[e1,e2,Qb,Qb,PK p1,PK p2];exact ih (A:=A.in1) (by show A.units+1+d<cLine;exact LF hu) (cw ha' (PK p1)) (cw hb' (PK p2)) hu2 hv2)
    have s1:xs.size=as.length:=by simp only[l1];simp
    have s2:ys.size=bs.length:=by simp only[l2];simp
    rw[s1,s2,hM as bs d ha' hb'] at z;exact z
open Sem (wp)
noncomputable abbrev SI.M (S:SI):Model:=model S.prog S.w
mutual
noncomputable def hV (w:World):V->Int
 |.none=>0xFCA86420|.int i=>hashInt i|.str x=>hashStr w (ak x)|.av vs=>reduceHash (RZ (Gj w vs))|_=>0
noncomputable def Gj (w:World):List V->List Int
 |[]=>[]|a::as=>hV w a::Gj w as
end
variable{S:SI}{g:Gh}{A:Around}{Ex:Ec}
theorem gj(s:Shared):s.TypeIs .none "NoneType":=rfl
theorem ui{sh:Shared}{Q:Int->Shared->Prop}(h:Q 0xFCA86420 {sh with toks:=sh.toks+1}):wpAny S.M A (pyHash .none) Q Ex sh:=by
 skip
 have hv:[Rz].any Value.onHeap=false:=rfl;refine wpAny_bind ?_;rw[cRoomFor,if_neg (by rw[hv];exact R1)];refine wpAny_pure ?_;refine wpAny_bind (wpAny_specialOf (gj sh) F.slot_NoneType_hash.lookup ?_);refine wpAny_bind (wpAny_specialOf (gj sh) F.slot_NoneType_hash.lookup ?_);refine wpAny_bind (wpAny_callSpecialIfBoundUnlessNone?_slot (gj sh) F.slot_NoneType_hash
  (wpAny_call_entry F.slot_NoneType_hash (gj sh) F.entry_NoneType_hash
   (show wpAny _ _ (do ret (<-mkInt 0xFCA86420)) _ _ sh from wpAny_ret_mkInt ?_) (F.args_NoneType_hash_1 _)))
 exact wpAny_pure h
theorem yh{h:Heap}{a:Addr}{xs:Array Value}(t:h.IsTuple a xs):∃o n,h.get? a=some o/\o.cls=.type "tuple"/\o.data=.seq xs n:=
 let⟨o,ho,hc,n,hd⟩:=t;⟨o,n,ho,hc,hd⟩
theorem lV{sh:Shared}{k:V}{v:Value}{d:Nat}{Q:Int->Shared->Prop}(hk:bV k d=true)(nt:∀ks,k≠ .av ks)(q:VR S g sh.heap k v)(h:∀t,sh.toks<=t->Q (hV S.w k) {sh with toks:=t}):wpAny S.M A (pyHash v) Q Ex sh:=by
 replace h:=h (sh.toks+1) (R5 _);cases k with
 |none=>exact(show v=.none from q)▸ui h|int i=>obtain⟨t,_,rfl⟩:=(show∃t,True/\v=.int i t from q);exact wpAny_pyHash_int h
 |str x=>obtain⟨t,_,rfl⟩:=(show∃t,True/\v=.str (ak x) t from q);exact wpAny_pyHash_str h
 |av ks=>exact absurd rfl (nt ks)|_=>induction d<;>exact ft hk
theorem AR{sh:Shared}{ks:List V}{v:Value}{d:Nat}{Q:Int->Shared->Prop}(hu:A.units<cLine)(hks:bS ks d=true)(q:VR S g sh.heap (.av ks) v)
  (ih:∀ {k:V} {v:Value} {t:Nat} {Q:Int->Shared->Prop} {Ex:Ec},bV k d=true->VR S g sh.heap k v->(∀t',t<=t'->Q (hV S.w k) {sh with toks:=t'})->wpAny S.M A.in1 (pyHash v) Q Ex {sh with toks:=t})
  (h:∀t,sh.toks<=t->Q (hV S.w (.av ks)) {sh with toks:=t}):wpAny S.M A (pyHash v) Q Ex sh:=by
 refine aw ((show∃a xs,v=.ref a/\sh.heap.IsTuple a xs/\aI S g sh.heap ks xs.toList from q)) λa xs z2 ht qs=>?_;refine z2▸?_;refine aw (yh ht) λo n ho hc hd=>?_;have hT:sh.TypeIs (.ref a) "tuple":=ag o ho hc;unfold pyHash;refine wpAny_bind (wpAny_cRoomFor_or (.inr hu) ?_);refine wpAny_bind (wpAny_specialOf hT F.slot_tuple_hash.lookup ?_);refine wpAny_bind (wpAny_specialOf hT F.slot_tuple_hash.lookup ?_);refine wpAny_bind (wpAny_callSpecialIfBoundUnlessNone?_slot hT F.slot_tuple_hash (wpAny_call_entry F.slot_tuple_hash hT F.entry_tuple_hash ?_ (F.args_tuple_hash_1 _)));refine(?_:wpAny _ _ (Builtin.Tuple.tupleItemsOf (.ref a)>>=_) _ _ sh);refine wpAny_bind (wpAny_tupleItemsOf ho hd (wpAny_bind ?_));rw[<-Array.forIn_toList];refine wpAny_forIn_list _
  (λrest (b:Array Int) s'=>∃left t,aI S g sh.heap left rest/\bS left d=true/\b.toList++Gj S.w left=Gj S.w ks/\sh.toks<=t/\s'={sh with toks:=t})
  _ ?_ ?_ _ _ (jB ks sh.toks qs hks rfl (P5 _) rfl)
 .rintro x rest b s' hh0;refine jA hh0 λleft t hl hkl hb htk z6=>?_;refine z6▸?_;induction left with
  |nil=>exact nomatch hl.fj|cons k0 left=>refine aw hl.bI λy ys e h1 h2=>?_;injection e with u v;refine u▸?_;subst v;obtain⟨k1,k2⟩:=(bL k0 left d).mp hkl;exact wpAny_bind (ih k1 h1 λt' ht'=>wpAny_pure (jB left t' h2 k2 (by rw[Array.toList_push,Qx];exact hb) (PN htk ht') rfl))
 .rintro b s' hh0;refine jA hh0 λleft t hl hkl hb htk z6=>?_;refine z6▸?_;induction left with
  |cons k0 left=>obtain⟨_,_,e,_⟩:=hl.bI;cases e
  |nil=>have hb:b.toList=Gj S.w ks:=(QI _).symm.trans hb;refine(?_:wpAny _ _ (retInt (RZ b.toList)) _ _ _);rw[hb];refine wpAny_ret_mkInt ?_;have hh:Q (if(decide (-(2:Int)^63<=RZ (Gj S.w ks))&&decide (RZ (Gj S.w ks)<2^63))=true then _ else _) _:=h (t+1) (RI htk);exact wpAny_ite_split (λc=>wpAny_pure (by rw[if_pos c] at hh;exact hh)) (λc=>wpAny_bind (wpAny_rule (wpAny_pure (by rw[if_neg c] at hh;exact hh))))
theorem hU:∀(d:Nat) {A:Around} {Ex:Ec} {sh:Shared} {k:V} {v:Value} {Q:Int->Shared->Prop},A.units+d<cLine->bV k d=true->VR S g sh.heap k v->
  (∀t,sh.toks<=t->Q (hV S.w k) {sh with toks:=t})->wpAny S.M A (pyHash v) Q Ex sh
 |0,A,Ex,sh,k,v,Q,_,hk,q,h=>lV hk (λks e=>by subst e;exact nomatch (qM ks).symm.trans hk) q h|d+1,A,Ex,sh,k,v,Q,hu,hk,q,h=>by
  by_cases nt:∀ks,k≠ .av ks
  .exact lV hk nt q h
  .obtain⟨ks,e⟩:=Classical.not_forall.mp nt;clear nt;obtain rfl:=Classical.not_not.mp e;exact AR (PY (Qz _ _) hu) hk q (λa b c=>hU d (A:=A.in1) (PY (Qa (RC ..)) hu) a b c) h
theorem nM{sh:Shared}{k:V}{v:Value}{d m:Nat}{Q:Bool->Shared->Prop}(hk:bV k d=true)(nt:∀ks,k≠ .av ks)(q:VR S g sh.heap k v)(h:Q true sh):wpAny S.M A (eqIsQuiet m v) Q Ex sh:=by
 have e:∀v,carriedByValue v=true->wpAny S.M A (eqIsQuiet m v) Q Ex sh:=λv e=>(eqIsQuiet_byValue _ e).symm▸wpAny_pure h;cases k with
 |none=>exact e _ ((show v=.none from q)▸rfl)|int i=>obtain⟨t,_,rfl⟩:=(show∃t,True/\v=.int i t from q);exact e _ rfl
 |str x=>obtain⟨t,_,rfl⟩:=(show∃t,True/\v=.str (ak x) t from q);exact e _ rfl
 |av ks=>exact absurd rfl (nt ks)|_=>induction d<;>exact ft hk
theorem kX:∀(d:Nat) {A:Around} {Ex:Ec} {sh:Shared} {k:V} {v:Value} {Q:Bool->Shared->Prop},bV k d=true->VR S g sh.heap k v->Q true sh->
  wpAny S.M A (eqIsQuiet d v) Q Ex sh
 |0,A,Ex,sh,k,v,Q,hk,q,h=>nM hk (λks e=>by subst e;exact nomatch (qM ks).symm.trans hk) q h|d+1,A,Ex,sh,k,v,Q,hk,q,h=>by
  by_cases nt:∀ks,k≠ .av ks
  .exact nM hk nt q h
  .obtain⟨ks,e⟩:=Classical.not_forall.mp nt;clear nt;obtain rfl:=Classical.not_not.mp e;refine aw ((show∃a xs,v=.ref a/\sh.heap.IsTuple a xs/\aI S g sh.heap ks xs.toList from q)) λa xs z2 ht qs=>?_;clear q;refine z2▸?_;refine aw (yh ht) λo n ho hc hd=>?_;have hT:sh.TypeIs (.ref a) "tuple":=ag o ho hc;unfold eqIsQuiet;refine wpAny_bind (wpAny_specialOf hT F.slot_tuple_eq.lookup ?_);refine wpAny_bind (wpAny_isInstance hT isSubtype_tuple_tuple ?_);refine wpAny_bind (wpAny_seqItems ho hd (wpAny_bind ?_));rw[<-Array.forIn_toList];refine wpAny_forIn_list _ (λrest r s'=>r.1=none/\s'=sh/\∃left,aI S g sh.heap left rest/\bS left d=true) _ ?_ ?_ _ _ ⟨rfl,rfl,ks,qs,hk⟩
   .clear hT hd hc ho qs ht z2;rintro v rest r s' ⟨hr,rfl,left,hl,hkl⟩;induction left with
    |nil=>exact nomatch hl.fj|cons k0 left=>refine aw hl.bI λy ys e h1 h2=>?_;injection e with u v;refine u▸?_;subst v;obtain⟨k1,k2⟩:=(bL k0 left d).mp hkl;exact wpAny_bind (kX d k1 h1 (wpAny_pure ⟨rfl,rfl,left,h2,k2⟩))
   .clear hT hd hc ho qs ht z2 e hk;rintro⟨r1,r2⟩ s' ⟨rfl,rfl,_⟩;exact wpAny_pure h
inductive aC (S:SI) (g:Gh) (h:Heap):List V->List DictEntry->Prop
 |nil:aC S g h [] []|cons {k:V} {e:DictEntry} {ks:List V} {es:List DictEntry}:e.hash=hV S.w k->VR S g h k e.key->aA k=true->aC S g h ks es->aC S g h (k::ks) (e::es)
theorem aC.length{h:Heap}{ks:List V}{es:List DictEntry}(q:aC S g h ks es):ks.length=es.length:=by
 induction q with
 |nil=>rfl|cons _ _ _ _ ih=>simp[ih]
theorem aC.get{h:Heap}{ks:List V}{es:List DictEntry}(q:aC S g h ks es):∀ {i:Nat} {e:DictEntry},es[i]?=some e->∃k,ks[i]?=some k/\e.hash=hV S.w k/\VR S g h k e.key/\aA k=true:=by
 induction q with
 |nil=>intro i e z;simp at z|cons h1 h2 h3 _ ih=>
  intro i e z;induction i with
  |zero=>simp at z;subst z;exact iH _ rfl h1 h2 h3|succ i=>simpa using ih (i:=i) (by simpa using z)
theorem aC.at{h:Heap}{ks:List V}{es:List DictEntry}(q:aC S g h ks es):∀ {i:Nat} {k:V},ks[i]?=some k->∃e,es[i]?=some e/\e.hash=hV S.w k/\VR S g h k e.key/\aA k=true:=by
 intro i k z;have hl:=q.length;have hi:i<es.length:=by refine hl▸?_;exact(PX.mp z).1
 refine aa (q.get (PK hi)) λk' z' r=>?_;replace z':=z.symm.trans z';exact(PD z')▸(ag _ (PK hi) r)
theorem zB{ks:List V}(hn:ks.Nodup){i j:Nat}{k:V}(hi:ks[i]?=some k)(hj:ks[j]?=some k):i=j:=
 (List.getElem?_inj (PX.mp hi).1 hn).mp (hi.trans hj.symm)
theorem hW{sh:Shared}{a b:V}{x y:Value}{Q:Bool->Shared->Prop}(hu:A.units+8<cLine)(ha:aA a=true)(hb:aA b=true)(qa:VR S g sh.heap a x)(qb:VR S g sh.heap b y)
  (h:Q (j3 a b) sh):wpAny S.M A (eqBool x y) Q Ex sh:=kg 8 hu ha hb qa qb S.prog S.w Ex Q h
section
variable{sh:Shared}{h:Heap}{d:Addr}{o:Obj}{es:Array DictEntry}{ep:Nat}{ks:List V}{k k':V}{key:Value}{Q:Option Nat->Shared->Prop}{x:Nat}{rest:List Nat}{cE:Option Nat}
noncomputable def DG (es:Array DictEntry) (h:Int):List Nat:=placesWithHash es.size (λi=>es[i]?.map (·.hash)) h
structure FI (S:SI) (g:Gh) (h:Heap) (es:Array DictEntry) (ks:List V) (k:V) (rest:List Nat) (cE:Option Nat):Prop where
 nd:rest.Nodup
 ok:∀x∈rest,∃e k',es[x]?=some e/\ks[x]?=some k'/\(e.hash==hV S.w k)=true/\VR S g h k' e.key/\aA k'=true
 LS:cE=none->∀j,ks[j]?=some k->j∈rest
 fU:∀j,cE=some j->ks[j]?=some k/\j∉rest
theorem FI.start(q:aC S g h ks es.toList):FI S g h es ks k (DG es (hV S.w k)) none where
 nd:=List.nodup_range.filter _
 ok x hx:=by
  have h2:=(List.mem_filter.mp hx).2;dsimp only at h2;cases e:es[x]? with
  |none=>rw[e] at h2;exact ft h2|some en=>refine aO (q.get (i:=x) (e:=en) ((Qn ..).trans e)) λk' a1 zz a3=>?_;exact cZ en k' rfl a1 ((congrArg (λz:Option DictEntry=>z.map (·.hash)==some (hV S.w k)) e).symm.trans h2) a3
 LS _ j hj:=by refine aO (q.at hj) λe h1 h2 zz=>?_;have h1:=(Qn ..).symm.trans h1;exact List.mem_filter.mpr ⟨RF.mpr (QV.mp h1).1,(congrArg (λz:Option DictEntry=>z.map (·.hash)==some (hV S.w k)) h1).trans (beq_iff_eq.mpr (congrArg some h2))⟩
 fU:=nofun
theorem FI.skip(f:FI S g h es ks k (x::rest) cE)(hx:ks[x]?=some k')(ne:k'≠k):FI S g h es ks k rest cE:=
 ⟨(Qv.mp f.nd).2,λy m=>f.ok y (PL _ m),λz j hj=>(PU.mp (f.LS z j hj)).resolve_left λe=>ne (PD (hx.symm.trans (e▸hj))),λj z=>⟨(f.fU j z).1,λm=>(f.fU j z).2 (PL _ m)⟩⟩
theorem FI.LU(f:FI S g h es ks k (x::rest) cE)(hn:ks.Nodup)(hx:ks[x]?=some k):cE=none/\FI S g h es ks k rest (some x):=
 ⟨match cE,f with
  |none,_=>rfl|some j,f=>absurd (zB hn (f.fU j rfl).1 hx▸PJ) (f.fU j rfl).2,
  (Qv.mp f.nd).2,λy m=>f.ok y (PL _ m),nofun,λj e=>PD e▸⟨hx,(Qv.mp f.nd).1⟩⟩
theorem FI.dY(f:FI S g h es ks k [] cE)(hnone:k∉ks->Q none sh)(hsome:∀j,ks[j]?=some k->Q (some j) sh):Q cE sh:=
 match cE,f with
 |none,f=>hnone λm=>PW (PR.mp m) λj hj=>nomatch f.LS rfl j hj|some j,f=>hsome j (f.fU j rfl).1
theorem nN{α:Type}{f:Bool->Sem α}{p:Option Value}{w:String}{y:Value}{T:α->Shared->Prop}(hu:A.units+8<cLine)(hk:aA k=true)(qk:VR S g sh.heap k key)(ho:sh.heap.get? d=some o)(hd:o.data=.dict es ep)(hk':aA k'=true)(qk':VR S g sh.heap k' y)
  (ht:k'=k->wpAny S.M A (f true) T Ex sh) (hf:k'≠k->wpAny S.M A (f false) T Ex sh):wpAny S.M A (do
   let before<-dictEpoch d p
   let same<-eqBool y key
   if(<-dictEpoch d p) !=before then unsupported w
   f same) T Ex sh:=by
 refine wpAny_bind (wpAny_dictEpoch ho hd (wpAny_bind (hW hu hk' hk qk' qk (wpAny_bind (wpAny_dictEpoch ho hd ?_)))));rw[if_neg (by simp)];cases z:j3 k' k with
 |true=>exact ht ((dg hk' hk).mp z)|false=>exact hf λe=>Qu (z.symm.trans ((dg hk' hk).mpr e))
theorem wy(hu:A.units+8<cLine)(hk:aA k=true)(qk:VR S g sh.heap k key)(ho:sh.heap.get? d=some o)(hd:o.data=.dict es ep)(hes:aC S g sh.heap ks es.toList)
  (hn:ks.Nodup) (hnone:k∉ks->Q none sh) (hsome:∀j,ks[j]?=some k->Q (some j) sh):
  wpAny S.M A (dictWalkPlain d key (hV S.w k) es (DG es (hV S.w k))) Q Ex sh:=by
 refine wpAny_bind (wpAny_forIn_list _ (λrest b s'=>s'=sh/\b=(none,())/\FI S g sh.heap es ks k rest none) _ ?_ ?_ _ _ ⟨rfl,rfl,FI.start hes⟩)
 .clear hn hes;rintro x rest b s' ⟨rfl,rfl,f⟩;refine jA (f.ok x PJ) λe k' h1 h2 h3 h4 h5=>?_;rw[h1];dsimp only;rw[if_pos h3];exact nN hu hk qk ho hd h5 h4 (λe=>wpAny_bind (wpAny_rule (wpAny_pure (wpAny_pure (hsome x (e▸h2)))))) (λne=>wpAny_bind (wpAny_rule (wpAny_pure ⟨rfl,rfl,f.skip h2 ne⟩)))
 .clear hes ho qk;rintro b s' ⟨rfl,rfl,f⟩;exact wpAny_pure (f.dY hnone hsome)
theorem zC{stored:List Value}(hk:aA k=true)(qk:VR S g sh.heap k key)(hst:∀v∈stored,∃k',VR S g sh.heap k' v/\aA k'=true){Q:Bool->Shared->Prop}(h:Q false sh):wpAny S.M A (tableMayTell key stored) Q Ex sh:=by
 unfold tableMayTell;split
 .exact wpAny_pure h
 .refine wpAny_bind (kX 8 hk qk ?_);refine wpAny_bind ?_;refine wpAny_forIn_list _ (λrest r s'=>s'=sh/\r=(none,())/\∀v∈rest,∃k',VR S g sh.heap k' v/\aA k'=true) _ ?_ ?_ _ _ ⟨rfl,rfl,hst⟩
  .clear hst qk hk;rintro x rest r s' ⟨rfl,rfl,hr⟩;refine aa (hr x PJ) λk' hb hb'=>?_;refine wpAny_bind (kX 8 hb' hb ?_);exact wpAny_pure ⟨rfl,rfl,λv hv=>hr v (PL _ hv)⟩
  .clear hst qk hk;rintro r s' ⟨rfl,rfl,_⟩;exact wpAny_pure h
set_option backward.match.sparseCases true in
noncomputable def yj (d:Addr) (key:Value) (h:Int) (es:Array DictEntry) (places:List Nat) (stored:List Value) (tells:Bool):Sem (Option Nat):=do
 let mut cE:Option Nat:=none
 for i in places do
  if let some e:=es[i]? then
   if e.hash==h then
    let before<-dictEpoch d (keyPart key)
    let same<-eqBool e.key key
    if(<-dictEpoch d (keyPart key)) !=before then unsupported "dict.changed-during-lookup"
    if same then
     if cE.isSome then unsupported "dict.find:order-among-keys-of-one-hash"
     rule "dict.find.hit"
     if stored.length<2 then return some i
     cE:=some i
    else
     rule "dict.find.same-hash-other-key"
     if tells&& !(0<=h&&h<32) then unsupported "dict.find:asked-again-or-not-hangs-on-the-table"
 return cE
set_option backward.match.sparseCases true in
noncomputable def IP (d:Addr) (key:Value) (h:Int) (es:Array DictEntry) (places:List Nat) (stored:List Value):Sem (Option Nat):=do
 if(key::stored).all carriedByValue then return<-dictWalkPlain d key h es places
 if let .ref _:=key then
  if es.any λe=>e.key==key&&e.hash !=h then unsupported "dict.find:a-stored-key-whose-hash-has-changed"
 let tells<-if stored==[key] then pure false else tableMayTell key stored
 if tells&&stored.length≥2 then unsupported "dict.find:order-among-keys-of-one-hash"
 yj d key h es places stored tells
theorem zD{stored:List Value}(hu:A.units+8<cLine)(hk:aA k=true)(qk:VR S g sh.heap k key)(ho:sh.heap.get? d=some o)(hd:o.data=.dict es ep)(hes:aC S g sh.heap ks es.toList)
  (hn:ks.Nodup) (hnone:k∉ks->Q none sh) (hsome:∀j,ks[j]?=some k->Q (some j) sh):wpAny S.M A (yj d key (hV S.w k) es (DG es (hV S.w k)) stored false) Q Ex sh:=by
 refine wpAny_bind (wpAny_forIn_list _ (λrest b s'=>s'=sh/\b.1=none/\FI S g sh.heap es ks k rest b.2) _ ?_ ?_ _ _ (j2 rfl rfl (FI.start hes)))
 .clear hes;rintro x rest ⟨_,cE⟩ s' ⟨rfl,rfl,f⟩;refine jA (f.ok x PJ) λe k' h1 h2 h3 h4 h5=>?_;rw[h1];dsimp only;rw[if_pos h3];refine nN hu hk qk ho hd h5 h4 (λe=>?_) (λne=>wpAny_bind (wpAny_rule (wpAny_pure (j2 rfl rfl (f.skip h2 ne)))));refine dw (f.LU hn (e▸h2)) λz0 f'=>?_;obtain rfl:=z0;exact wpAny_bind (wpAny_rule (wpAny_ite_split (λzz=>wpAny_pure (wpAny_pure (hsome x (e▸h2)))) λzz=>wpAny_pure (j2 rfl rfl f')))
 .clear hes ho qk;rintro⟨_,cE⟩ s' ⟨rfl,rfl,f⟩;exact wpAny_pure (f.dY hnone hsome)
theorem zE(hu:A.units+8<cLine)(hk:aA k=true)(qk:VR S g sh.heap k key)(ho:sh.heap.get? d=some o)(hd:o.data=.dict es ep)(hes:aC S g sh.heap ks es.toList)
  (hn:ks.Nodup) (hnone:k∉ks->Q none sh) (hsome:∀j,ks[j]?=some k->Q (some j) sh):wpAny S.M A (IP d key (hV S.w k) es (DG es (hV S.w k)) ((DG es (hV S.w k)).filterMap λi=>es[i]?.map (·.key))) Q Ex sh:=by
 have hst:∀v∈(DG es (hV S.w k)).filterMap (λi=>es[i]?.map (·.key)),∃k',VR S g sh.heap k' v/\aA k'=true:=λv hv=>by refine aa (List.mem_filterMap.mp hv) λi hm hi=>?_;refine jA ((FI.start (k:=k) hes).ok i hm) λe k' h1 zz zz h4 h5=>?_;exact ag k' (PD ((congrArg (λz:Option DictEntry=>z.map (·.key)) h1).symm.trans hi)▸h4) h5
 generalize(DG es (hV S.w k)).filterMap (λi=>es[i]?.map (·.key))=st at hst⊢;have loop:wpAny S.M A (yj d key (hV S.w k) es (DG es (hV S.w k)) st false) Q Ex sh:=zD hu hk qk ho hd hes hn hnone hsome;have go:wpAny S.M A (do
   let tells<-if st==[key] then pure false else tableMayTell key st
   if tells&&st.length≥2 then unsupported "dict.find:order-among-keys-of-one-hash"
   yj d key (hV S.w k) es (DG es (hV S.w k)) st tells) Q Ex sh:=wpAny_ite_split (λzz=>wpAny_bind (wpAny_pure loop)) λzz=>wpAny_bind (zC hk qk hst loop)
 refine wpAny_ite_split (λzz=>wy hu hk qk ho hd hes hn hnone hsome) λzz=>?_;clear loop;induction key with
 |ref a=>refine wpAny_ite_split (λq=>?_) λzz=>go;refine aa (List.any_eq_true.mp (Array.any_toList.trans q)) λe hin hc=>?_;obtain⟨i,hi⟩:=PR.mp hin;refine dQ (hes.get hi) λk' zz h2 h3 h4=>?_;rw[QP,beq_iff_eq,bne_iff_ne,ne_eq] at hc;exact(hc.2 (h2.trans (congrArg (hV S.w) (VR.fn h4 hk (hc.1▸h3) qk)))).elim
 |_=>exact go
theorem AS{x0:Str}{t0:Tok}(h1:VR S g h k (.str x0 t0))(h2:aA k=true):∃y,k=.str y/\x0=ak y:=by
 cases k<;>first|(exact ft h2;done)|skip
 .exact nomatch (show Value.str x0 t0=.none from h1)
 .obtain⟨_,_,e⟩:=(show∃t,True/\Value.str x0 t0=.int _ t from h1);exact nomatch e
 .obtain⟨_,_,e⟩:=(show∃t,True/\Value.str x0 t0=.str (ak _) t from h1);exact ag _ rfl ((Value.str.inj e).1)
 .obtain⟨_,_,e,_⟩:=(show∃a xs,Value.str x0 t0=.ref a/\h.IsTuple a xs/\aI S g h _ xs.toList from h1);exact nomatch e
theorem AU{x0:Str}{t0:Tok}(hu:A.units+8<cLine)(hk:aA k=true)(qk:VR S g sh.heap k (.str x0 t0))(ho:sh.heap.get? d=some o)(hd:o.data=.dict es ep)(hes:aC S g sh.heap ks es.toList)
  (hnone:k∉ks->Q none sh) (hsome:∀j,ks[j]?=some k->Q (some j) sh):wpAny S.M A (foundByValue d (.str x0 t0) es x0) Q Ex sh:=by
 unfold foundByValue;refine aa (AS qk hk) λy z1 z2=>?_;obtain rfl:=z1;obtain rfl:=z2;cases hf:es.findIdx? (λe=>e.key.isStr (ak y)) with
 |none=>refine wpAny_pure (hnone λhm=>?_);obtain⟨j,hj⟩:=PR.mp hm;refine dQ (hes.at hj) λe he zz h3 zz=>?_;have:=Array.findIdx?_eq_none_iff.mp hf e (Array.mem_def.mpr (P7 he));refine aa ((show∃t,True/\e.key=.str (ak y) t from h3)) λzz zz e3=>?_;rw[e3] at this;exact Qu (this.symm.trans (beq_self_eq_true (ak y)))
 |some i=>
  obtain⟨hlt,hi,_⟩:=Array.findIdx?_eq_some_iff_getElem.mp hf;have h1:=Array.getElem?_eq_getElem hlt;refine dQ (hes.get ((Qn ..).trans h1)) λk' hk1 hk2 hk3 hk4=>?_;have hkk:k'=.str y:=by
   cases hz:es[i].key with
   |str z u=>rw[hz] at hi hk3;refine aa (AS hk3 hk4) λy' z1 e=>?_;exact z1▸congrArg V.str (gR (e.symm.trans (beq_iff_eq.mp hi)))
   |_=>rw[hz] at hi;exact ft hi
  dsimp only;rw[h1];exact nN hu hk qk ho hd hk4 hk3 (λzz=>wpAny_bind (wpAny_rule (wpAny_pure (hsome i (hkk▸hk1))))) λne=>absurd hkk ne
theorem hY(hu:A.units+8<cLine)(hk:aA k=true)(qk:VR S g sh.heap k key)(ho:sh.heap.get? d=some o)(hd:o.data=.dict es ep)(hes:aC S g sh.heap ks es.toList)
  (hn:ks.Nodup) (hnone:k∉ks->Q none sh) (hsome:∀j,ks[j]?=some k->Q (some j) sh):
  wpAny S.M A (dictFind d key (hV S.w k)) Q Ex sh:=by
 have rest:=zE (Ex:=Ex) hu hk qk ho hd hes hn hnone hsome;refine wpAny_holding (wpAny_bind (wpAny_dictEntries ho hd ?_));induction key with
 |str x0 t0=>exact wpAny_ite_split (λzz=>AU hu hk qk ho hd hes hnone hsome) λzz=>rest|_=>exact rest
end
inductive cU (S:SI) (g:Gh) (h:Heap):List (Nat×V)->List DictEntry->Prop
 |nil:cU S g h [] []|cons {x:Nat} {v:V} {e:DictEntry} {fs:List (Nat×V)} {es:List DictEntry} {t:Tok}:e.key=.str (S.n x) t->x<S.nm.length->VR S g h v e.val->cU S g h fs es->cU S g h ((x,v)::fs) (e::es)
noncomputable def bo (bs:List (Bool×V)):List V:=(bs.filter (·.1)).map (·.2)
noncomputable def OR (S:SI) (g:Gh) (h:Heap) (a:Addr):O->Prop
 |.list vs=>∃xs n,h.get? a=some {cls:=.type "list",data:=.seq xs n}/\aI S g h vs xs.toList|.dict es=>∃ds n,h.get? a=some {cls:=.type "dict",data:=.dict ds n}/\aC S g h (es.map (·.1)) ds.toList/\aI S g h (es.map (·.2)) (ds.toList.map (·.val))/\(es.map (·.1)).Nodup/\n=ds.size|.set ss=>h.SetOf (strKind S.prog S.w) a (λx=>decide (∃y∈ss,ak y=x)) ss.length|.ns fs=>∃ds n,h.get? a=some {cls:=.type "dict",data:=.dict ds n}/\cU S g h fs ds.toList|.view vs d=>∃es ds n,h.get? a=some {cls:=.type "dict",data:=.dict ds n}/\aC S g h (es.map (·.1)) ds.toList/\aI S g h (es.map (·.2)) (ds.toList.map (·.val))/\(es.map (·.1)).Nodup/\n=ds.size/\∀k v,aE vs k=some v->aA k=true->(aE es k=some v\/(aE es k=.none/\v=d))|.dq bs=>∃xs n,h.get? a=some {cls:=.type "list",data:=.seq xs n}/\aI S g h (bo bs) xs.toList
structure O2 (S:SI):Prop where
 c9:∀a∈S.c9,∃o,S.h0.get? a=some o
 nm:S.nm.Nodup
 g:S.h0.Ns mainGlobals S.mg
 gT:mainGlobals∉S.c9
 b:S.h0.Ns builtinsNs S.mb
 bT:builtinsNs∉S.c9
 nl:S.h0.NoLimit
 cT:cStatics∉S.c9
 K:S.K.In S.h0
 KT:∀a o,S.K.lookup a=some o->a∉S.c9
 O3:∃o,S.h0.get? sysModules=some o
noncomputable def wz (h:Heap) (c:Addr):Prop:=∃o,h.get? c=some o/\((∃v,o.data=.cell (some v))\/∃vs,o.data=.fields vs)
noncomputable def yk (S:SI) (g:Gh) (h:Heap) (P:Addr):Prop:=∃op ps,h.get? P=some op/\op={cls:=.none,data:=.fields ps}/\TriplesOk ps.toList/\∀pos c,codeAmong pos ps.toList=some c->∃cc,c=.ref cc/\cc∈g.bH/\h.CodeRec c (S.wg P)
theorem yk.keep{S:SI}{g:Gh}{h h':Heap}{P:Addr}(q:yk S g h P)(hk:∀x o,(x=P\/x∈g.bH)->h.get? x=some o->h'.get? x=some o):yk S g h' P:=by refine bK q λop ps h1 h2 h3 h4=>?_;refine cZ op ps (hk _ _ (.inl rfl) h1) h2 h3 (λpos c hc=>?_);obtain⟨cc,rfl,h5,c',o,xs,t,h6,h7,h8⟩:=h4 pos c hc;obtain rfl:=Qq h6;exact⟨cc,rfl,h5,cc,o,xs,t,rfl,hk _ _ (.inr h5) h7,h8⟩
theorem kY{h:Heap}{c:Addr}{m:Str->Option Value}(q:wz h c)(n:h.Ns c m):False:=by refine aa q λo h1 h2=>?_;refine gQ n λo' es ep h3 h4 zz=>?_;replace h3:=h1.symm.trans h3;obtain rfl:=PD h3;rcases h2 with⟨v,h2⟩|⟨v,h2⟩<;>replace h2:=h4.symm.trans h2<;>cases h2
structure aD (S:SI) (g:Gh) (s:St) (sh:Shared):Prop where
 ok:O2 S
 len:g.ar.length=s.n
 nd:g.ar.Nodup
 bc:∀i a,g.ar[i]?=some a->∃o,s.get i=some o/\OR S g sh.heap a o
 so:∀i o,s.get i=some o->i<s.n
 bH:∀c∈g.bH,wz sh.heap c
 base:∀a o,S.h0.get? a=some o->a∉S.c9->sh.heap.get? a=some o
 jM:∀a∈g.ar,S.h0.get? a=none
 jN:∀a∈g.bH,S.h0.get? a=none
 fC:∀a∈S.c9,yk S g sh.heap a
 gens:sh.gens=S.gens
 drawn:sh.drawn=S.drawn
 os:sh.os=S.os
variable{S:SI}{g g' g'':Gh}{h h' h'':Heap}{X Y:List Addr}
theorem aC.up(e:Up g h g' h'){ks:List V}{es:List DictEntry}(q:aC S g h ks es):aC S g' h' ks es:=by
 induction q with
 |nil=>exact .nil|cons h1 h2 h3 _ ih=>exact .cons h1 (h2.up e) h3 ih
theorem cU.up(e:Up g h g' h'){fs:List (Nat×V)}{es:List DictEntry}(q:cU S g h fs es):cU S g' h' fs es:=by
 induction q with
 |nil=>exact .nil|cons h1 h2 h3 _ ih=>exact .cons h1 h2 (h3.up e) ih
theorem OR.up(e:Up g h g' h'){a:Addr}{o:O}(q:OR S g h a o)(ha:∀ob,h.get? a=some ob->h'.get? a=some ob):OR S g' h' a o:=by
 induction o with
 |list vs=>obtain⟨xs,n,h1,h2⟩:=q;exact⟨xs,n,ha _ h1,h2.up e⟩
 |dict es=>obtain⟨ds,n,h1,h2,h3,h4⟩:=q;exact⟨ds,n,ha _ h1,h2.up e,h3.up e,h4⟩
 |set ss=>obtain⟨o,es,ep,t,h1,r⟩:=q;exact⟨o,es,ep,t,ha _ h1,r⟩
 |ns fs=>obtain⟨ds,n,h1,h2⟩:=q;exact⟨ds,n,ha _ h1,h2.up e⟩
 |view vs d=>obtain⟨es,ds,n,h1,h2,h3,h4⟩:=q;exact⟨es,ds,n,ha _ h1,h2.up e,h3.up e,h4⟩
 |dq vs=>obtain⟨xs,n,h1,h2⟩:=q;exact⟨xs,n,ha _ h1,h2.up e⟩
theorem aC.ext(e:aG S X g h g' h'){ks:List V}{es:List DictEntry}(q:aC S g h ks es):aC S g' h' ks es:=q.up e.up
theorem cU.ext(e:aG S X g h g' h'){fs:List (Nat×V)}{es:List DictEntry}(q:cU S g h fs es):cU S g' h' fs es:=q.up e.up
theorem OR.ext(e:aG S X g h g' h'){a:Addr}{o:O}(q:OR S g h a o)(ha:∀ob,h.get? a=some ob->h'.get? a=some ob):OR S g' h' a o:=q.up e.up ha
theorem OR.get{a:Addr}{o:O}(q:OR S g h a o):∃ob,h.get? a=some ob/\¬sa ob/\(∀v,ob.data≠ .cell v)/\∀v,ob.data≠ .fields v:=by
 induction o with
 |list vs=>obtain⟨xs,n,h1,_⟩:=q;exact⟨_,h1,(by rintro(⟨z,_,_,z2⟩|z|⟨_,z⟩)<;>first|(injection z with z;exact absurd z (by decide))|cases z),λv=>(nofun),λv=>(nofun)⟩
 |dict es=>obtain⟨ds,n,h1,_⟩:=q;exact⟨_,h1,(by rintro(⟨z,_,_,z2⟩|z|⟨_,z⟩)<;>first|(injection z with z;exact absurd z (by decide))|cases z),λv=>(nofun),λv=>(nofun)⟩
 |set ss=>
  refine ye q λo es ep t h1 hx hd zz=>?_;refine iH _ h1 ?_ (λv=>(by rw[hd];nofun)) (λv=>(by rw[hd];nofun));rintro(⟨z,_⟩|z|⟨_,z⟩)
  .rw[hx.1] at z;injection z with z;exact absurd z (by decide)
  .replace z:=hd.symm.trans z;cases z
  .replace z:=hd.symm.trans z;cases z
 |ns fs=>obtain⟨ds,n,h1,_⟩:=q;exact⟨_,h1,(by rintro(⟨z,_,_,z2⟩|z|⟨_,z⟩)<;>first|(injection z with z;exact absurd z (by decide))|cases z),λv=>(nofun),λv=>(nofun)⟩
 |view vs d=>obtain⟨es,ds,n,h1,_⟩:=q;exact⟨_,h1,(by rintro(⟨z,_,_,z2⟩|z|⟨_,z⟩)<;>first|(injection z with z;exact absurd z (by decide))|cases z),λv=>(nofun),λv=>(nofun)⟩
 |dq vs=>obtain⟨xs,n,h1,_⟩:=q;exact⟨_,h1,(by rintro(⟨z,_,_,z2⟩|z|⟨_,z⟩)<;>first|(injection z with z;exact absurd z (by decide))|cases z),λv=>(nofun),λv=>(nofun)⟩
theorem LV{α:Type}(b:Bool)(x y:α):@PS (λzz=>α) x y b=if b=true then y else x:=by induction b<;>rfl
theorem Tr.nP{α:Type}(v:Option α)(l r:Tr α)(i:Nat):(Tr.node v l r).get i=if i=0 then v else if i%2=1 then l.get (i/2) else r.get (i/2-1):=by refine(?_:@PS (λzz=>Option α) (@PS (λzz=>Option α) (r.get (i/2-1)) (l.get (i/2)) (P8 (i%2) 1)) v (P8 i 0)=_);simp only[LV,cD]
theorem M4{α:Type}{i j q p:Nat}{x y:α}(h:j=i↔p=q):(if j=i then x else y)=if p=q then x else y:=by
 by_cases e:j=i
 .rw[if_pos e,if_pos (h.mp e)]
 .rw[if_neg e,if_neg λz=>e (h.mpr z)]
theorem DH(i:Nat):i=0\/(∃q,i=2*q+1)\/∃q,i=2*q+2:=match i with
 |0=>.inl rfl|i+1=>.inr ((Nat.mod_two_eq_zero_or_one i).elim (λe=>.inl ⟨i/2,congrArg Nat.succ ((congrArg _ e).symm.trans (Nat.div_add_mod i 2)).symm⟩) λe=>.inr ⟨i/2,congrArg Nat.succ ((congrArg _ e).symm.trans (Nat.div_add_mod i 2)).symm⟩)
section
variable{α:Type}{a:α}{f:Nat}{v:Option α}{l r:Tr α}{q:Nat}
theorem Lm:(2*q+1)%2=1:=Nat.mul_add_mod 2 q 1
theorem M5:(2*q+1)/2=q:=Nat.mul_add_div (by decide) q 1
theorem Ln:(2*q+2)%2=0:=Nat.mul_add_mod 2 q 2
theorem M6:(2*q+2)/2-1=q:=congrArg (· -1) (Nat.mul_add_div (by decide) q 2)
theorem Tr.g1:(Tr.node v l r).get (2*q+1)=l.get q:=by rw[Tr.nP,if_neg nofun,if_pos Lm,M5]
theorem Tr.g2:(Tr.node v l r).get (2*q+2)=r.get q:=by rw[Tr.nP,if_neg nofun,if_neg (by rw[Ln];nofun),M6]
theorem Tr.p1:Tr.bU a (f+1) (.node v l r) (2*q+1)=.node v (Tr.bU a f l q) r:=by refine(?_:@PS (λzz=>Tr α) (Tr.node v l (Tr.bU a f r ((2*q+1)/2-1))) (Tr.node v (Tr.bU a f l ((2*q+1)/2)) r) (P8 ((2*q+1)%2) 1)=_);rw[Lm,M5];rfl
theorem Tr.p2:Tr.bU a (f+1) (.node v l r) (2*q+2)=.node v l (Tr.bU a f r q):=by refine(?_:@PS (λzz=>Tr α) (Tr.node v l (Tr.bU a f r ((2*q+2)/2-1))) (Tr.node v (Tr.bU a f l ((2*q+2)/2)) r) (P8 ((2*q+2)%2) 1)=_);rw[Ln,M6];rfl
theorem Tr.DI(i:Nat):(Tr.node none .nil .nil:Tr α).get i=none:=by rw[Tr.nP];split<;>(try split)<;>rfl
end
theorem Tr.kh{α:Type}(a:α)(f:Nat)(v:Option α)(l r:Tr α)(i j:Nat)(h:i+1<2^(f+1))(ih:∀(t:Tr α) (i j:Nat),i+1<2^f->(Tr.bU a f t i).get j=if j=i then some a else t.get j):(Tr.bU a (f+1) (.node v l r) i).get j=if j=i then some a else(Tr.node v l r).get j:=by
 have lt:∀q,2*q+2<2^(f+1)->q+1<2^f:=λq z=>Nat.lt_of_mul_lt_mul_left (a:=2) (Nat.mul_comm (2^f) 2▸z);rcases DH i with rfl|⟨q,rfl⟩|⟨q,rfl⟩
 .rcases DH j with rfl|⟨p,rfl⟩|⟨p,rfl⟩
  .rfl
  .exact Tr.g1.trans (Tr.g1.symm.trans (if_neg nofun).symm)
  .exact Tr.g2.trans (Tr.g2.symm.trans (if_neg nofun).symm)
 .rw[Tr.p1];rcases DH j with rfl|⟨p,rfl⟩|⟨p,rfl⟩
  .rfl
  .rw[Tr.g1,Tr.g1,ih l q p (lt q h)];exact M4 ⟨λe=>e▸rfl,λe=>Nat.eq_of_mul_eq_mul_left (by decide) (Nat.succ.inj e)⟩
  .rw[Tr.g2,Tr.g2,if_neg (λe=>nomatch Lm.symm.trans ((congrArg (· %2) e.symm).trans Ln))]
 .rw[Tr.p2];rcases DH j with rfl|⟨p,rfl⟩|⟨p,rfl⟩
  .rfl
  .rw[Tr.g1,Tr.g1,if_neg (λe=>nomatch Lm.symm.trans ((congrArg (· %2) e).trans Ln))]
  .rw[Tr.g2,Tr.g2,ih r q p (lt q (Nat.lt_of_succ_lt h))];exact M4 ⟨λe=>e▸rfl,λe=>Nat.eq_of_mul_eq_mul_left (by decide) (Nat.succ.inj (Nat.succ.inj e))⟩
theorem Tr.cF{α:Type}(a:α):∀(f:Nat) (t:Tr α) (i j:Nat),i+1<2^f->(Tr.bU a f t i).get j=if j=i then some a else t.get j
 |0,_,_,_,h=>absurd (Ry h) (Nat.not_lt_zero _)|f+1,.nil,i,j,h=>(Tr.kh a f none .nil .nil i j h λl=>Tr.cF a f l).trans (by rw[Tr.DI];rfl)|f+1,.node v l r,i,j,h=>Tr.kh a f v l r i j h λl=>Tr.cF a f l
theorem AV(i:Nat):i+1<2^(i+1):=by
 induction i with
 |zero=>decide|succ i ih=>exact PZ (Nat.succ_lt_succ ih) (PN (RQ (Qg (PY (Q1 1 i) ih)) _) (Qa ((Nat.mul_two _).symm.trans (Nat.pow_succ ..).symm)))
theorem St.cF(s:St)(l j:Nat)(o:O):(s.bU l o).get j=if j=l then some o else s.get j:=Tr.cF o _ _ _ _ (AV l)
theorem St.gk(s:St)(j:Nat)(o:O):(s.new o).get j=if j=s.n then some o else s.get j:=Tr.cF o _ _ _ _ (AV s.n)
variable{S:SI}{g g' g'':Gh}{h h' h'':Heap}{X Y:List Addr}{s s':St}{sh sh':Shared}
theorem aG.jw{Z:List Addr}(hz:∀z∈Z,∀o,h.get? z=some o->∃o',h'.get? z=some o')(hk:∀a o,h.get? a=some o->a∉Z->h'.get? a=some o)(hf:∀z∈Z,z∉g.bH)(hi:∀z∈Z,∀o,h.get? z=some o->¬sa o)(hX:∀z∈Z,z∈X\/h.get? z=none):
  aG S X g h g h' where
 ar:=Q2 _
 c7:=λzz x=>.inl x
 bH:=λzz x=>x
 dO:=λzz x=>.inl x
 live:=λa o q=>by
  by_cases m:a∈Z
  .exact hz a m o q
  .exact⟨o,hk a o q m⟩
 pZ:=λa o q i=>hk a o q λm=>hi a m o q i
 cell:=λc o m q=>hk c o q λz=>hf c z m
 keep:=λa o q n1 n2 n3 zz=>hk a o q λm=>by
  refine QK (hX a m) (λz=>?_) λz=>?_
  .exact n2 z
  .replace q:=z.symm.trans q;exact ns q
 c8:=λa o q n1 n2 n3=>⟨o.slots,hk a o q λm=>by
  refine QK (hX a m) (λz=>?_) λz=>?_
  .exact n2 z
  .replace q:=z.symm.trans q;exact ns q⟩
theorem aG.bq(hk:∀a o,h.get? a=some o->h'.get? a=some o):aG S X g h g h':=
 aG.jw (Z:=[]) (λzz m=>nomatch m) (λa o q zz=>hk a o q) (λzz m=>nomatch m) (λzz m=>nomatch m) (λzz m=>nomatch m)
theorem aG.push(o:Obj):aG S X g h g (h.push o):=aG.bq λzz zz q=>PO _ q
theorem aG.a9{l:Nat}{a:Addr}(r:aD S g s sh)(hl:g.ar[l]?=some a)(hs:P0 a sh.heap h')(ha:∃o,h'.get? a=some o):aG S X g sh.heap g h' where
 ar:=Q2 _
 c7:=λzz x=>.inl x
 bH:=λzz x=>x
 dO:=λzz x=>.inl x
 live:=λb o q=>by
  by_cases e:b=a
  .refine e.symm▸?_;exact ha
  .exact⟨o,(hs.2 b e).trans q⟩
 pZ:=λb o q i=>(hs.2 b λe=>by obtain⟨o',_,ho⟩:=r.bc l a hl;obtain⟨ob,h1,h2,_⟩:=ho.get;rw[e,h1] at q;injection q with q;subst q;exact h2 i).trans q
 cell:=λc o m q=>(hs.2 c λe=>by
  obtain⟨o',_,ho⟩:=r.bc l a hl;refine dQ ho.get λob h1 zz h3 h3'=>?_;refine aa (r.bH c m) λo'' h4 h5=>?_;rw[e,h1] at h4;injection h4 with h4;subst h4;rcases h5 with⟨v,h5⟩|⟨v,h5⟩
  .exact h3 _ h5
  .exact h3' _ h5).trans q
 keep:=λb o q n1 n2 n3 zz=>(hs.2 b λe=>n1 (e▸P7 hl)).trans q
 c8:=λb o q n1 n2 n3=>⟨o.slots,(hs.2 b λe=>n1 (e▸P7 hl)).trans q⟩
theorem Gk{l:Nat}{a b:Addr}{i:Nat}(r:aD S g s sh)(hl:g.ar[l]?=some a)(hi:g.ar[i]?=some b)(hne:i≠l):b≠a:=λe=>by subst e;exact hne ((List.getElem?_inj (PX.mp hi).1 r.nd).mp (hi.trans hl.symm))
theorem eW(r:aD S g s sh){a:Addr}(h:S.h0.get? a=none):a∉S.c9:=λm=>by refine PW (r.ok.c9 a m) λzz z=>?_;rw[h] at z;exact ns z
theorem aD.fresh(r:aD S g s sh){a:Addr}(h:sh.heap.get? a=none):S.h0.get? a=none:=by
 cases z:S.h0.get? a with
 |none=>rfl|some o=>
  by_cases ht:a∈S.c9
  .refine a8 (r.fC a ht) λzz zz y zz=>?_;replace y:=h.symm.trans y;exact ns y
  .have:=r.base a o z ht;replace this:=h.symm.trans this;exact ns this
theorem aD.bU{l:Nat}{a:Addr}{o:O}{tk:Nat}(r:aD S g s sh)(hl:g.ar[l]?=some a)(hs:P0 a sh.heap h')(ho:OR S g h' a o):aD S g (s.bU l o) {sh with heap:=h',toks:=tk}:=
 have ha:∃o,h'.get? a=some o:=aa ho.get λob h1 zz=>⟨ob,h1⟩
 {
 ok:=r.ok
 len:=r.len
 nd:=r.nd
 bc:=λi b hi=>by
  rw[St.cF];by_cases e:i=l
  .subst e;refine(if_pos rfl).symm▸?_;rw[hl] at hi;exact(PD hi)▸(ag o rfl ho)
  .refine(if_neg e).symm▸?_;refine aa (r.bc i b hi) λo' h1 h2=>?_;exact ag o' h1 (h2.ext (aG.a9 (X:=[]) r hl hs ha) λob q=>(hs.2 b (Gk r hl hi e)).trans q)
 so:=λi o' q=>by
  rw[St.cF] at q;by_cases e:i=l
  .refine e.symm▸?_;have:=(PX.mp hl).1;simp only[r.len] at this;exact this
  .rw[if_neg e] at q;exact r.so i o' q
 bH:=λc hc=>by refine aa (r.bH c hc) λo' h1 h2=>?_;exact ag o' ((aG.a9 (X:=[]) r hl hs ha).cell c o' hc h1) h2
 base:=λb o' q n=>(hs.2 b λe=>by clear ho tk;subst e;rw[r.jM _ (P7 hl)] at q;exact nomatch q).trans (r.base b o' q n)
 jM:=r.jM
 jN:=r.jN
 fC:=λb m=>by
  refine(r.fC b m).keep λx o hx q=>?_;rcases hx with rfl|hx
  .exact(hs.2 x λe=>eW r (r.jM _ (P7 hl)) (e▸m)).trans q
  .exact(aG.a9 (X:=[]) r hl hs ha).cell x o hx q
 gens:=r.gens
 drawn:=r.drawn
 os:=r.os}
theorem DJ(r:aD S g s sh){a:Addr}(m:a∈S.c9)(h:S.h0.get? a=none):False:=by refine PW (r.ok.c9 a m) λzz z=>?_;rw[h] at z;exact nomatch z
theorem aD.jw{Z:List Addr}{tk:Nat}(r:aD S g s sh)(hk:∀a o,sh.heap.get? a=some o->a∉Z->h'.get? a=some o)(hf:∀z∈Z,z∉g.bH)(hl:∀z∈Z,z∉g.ar)(hi:∀z∈Z,∀o,sh.heap.get? z=some o->¬sa o)
  (hb:∀z∈Z,S.h0.get? z=none):aD S g s {sh with heap:=h',toks:=tk} where
 ok:=r.ok
 len:=r.len
 nd:=r.nd
 bc:=λi b q=>by refine aa (r.bc i b q) λo' h1 h2=>?_;exact ag o' h1 (h2.up (g':=g) (h':=h') ⟨Q2 _,λzz x=>x,λa o q i=>hk a o q λm=>hi a m o q i,λc o m q=>hk c o q λz=>hf c z m⟩ λob q'=>hk b ob q' λm=>hl b m (P7 q))
 so:=r.so
 bH:=λc hc=>by refine aa (r.bH c hc) λo' h1 h2=>?_;exact ag o' (hk c o' h1 λm=>hf c m hc) h2
 base:=λb o' q n=>hk b o' (r.base b o' q n) λm=>by rw[hb b m] at q;exact nomatch q
 jM:=r.jM
 jN:=r.jN
 fC:=λb m=>by
  refine(r.fC b m).keep λx o hx q=>?_;rcases hx with rfl|hx
  .exact hk x o q λz=>DJ r m (hb x z)
  .exact hk x o q λz=>hf x z hx
 gens:=r.gens
 drawn:=r.drawn
 os:=r.os
theorem aD.bq{tk:Nat}(r:aD S g s sh)(hk:∀a o,sh.heap.get? a=some o->h'.get? a=some o):aD S g s {sh with heap:=h',toks:=tk}:=
 r.jw (Z:=[]) (λa o q zz=>hk a o q) (λzz m=>nomatch m) (λzz m=>nomatch m) (λzz m=>nomatch m) (λzz m=>nomatch m)
theorem aD.Gl{tk:Nat}(r:aD S g s sh):aD S g s {sh with toks:=tk}:=r.bq (h':=sh.heap) (λzz zz q=>q)
theorem aD.push{tk:Nat}(r:aD S g s sh)(o:Obj):aD S g s {sh with heap:=sh.heap.push o,toks:=tk}:=r.bq (λzz zz q=>PO _ q)
noncomputable def Gh.add (g:Gh) (a:Addr):Gh:=⟨g.ar++[a],g.bH⟩
theorem Gh.gU(r:aD S g s sh)(a:Addr):(g.add a).ar[s.n]?=some a:=by refine(?_:(g.ar++[a])[s.n]?=_);refine r.len▸?_;simp
theorem aG.uj{a:Addr}(e:aG S X g h g' h')(ha:h.get? a=none):aG S X g h (g'.add a) h':=
 {e with
  ar:=e.ar.trans (List.prefix_append _ _)
  c7:=λb m=>by
   rcases QO.mp m with m|m
   .exact e.c7 b m
   .refine(PI.mp m).symm▸?_;exact .inr ha}
theorem aD.uj{a:Addr}{o:O}(r:aD S g s sh)(ha:a∉g.ar)(hb:S.h0.get? a=none)(ho:OR S (g.add a) sh.heap a o):aD S (g.add a) (s.new o) sh where
 ok:=r.ok
 len:=by refine(?_:(g.ar++[a]).length=s.n+1);simp only[PH,r.len];rfl
 nd:=List.nodup_append.mpr ⟨r.nd,by simp,λx hx y hy e=>by replace e:=e.trans (PI.mp hy);exact ha (e▸hx)⟩
 bc:=λi b q=>by
  have q':(g.ar++[a])[i]?=some b:=q;rw[St.gk];by_cases e:i=s.n
  .rw[if_pos e];rw[e,<-r.len] at q';simp at q';exact ag o rfl (q'▸ho)
  .rw[if_neg e];have hlt:i<g.ar.length:=by
    have:=(PX.mp q').1;simp at this;rw[r.len] at this⊢;omega
   rw[List.getElem?_append_left hlt] at q';refine aa (r.bc i b q') λo' h1 h2=>?_;refine ag o' h1 ?_;exact h2.up (g':=g.add a) (h':=sh.heap) (⟨List.prefix_append _ _,λzz x=>x,λzz zz x zz=>x,λzz zz zz x=>x⟩:Up g sh.heap (g.add a) sh.heap) λzz x=>x
 so:=λi o' q=>by
  rw[St.gk] at q;refine(?_:i<s.n+1);by_cases e:i=s.n
  .exact by simp[e]
  .rw[if_neg e] at q;have:=r.so i o' q;exact Qy this
 bH:=r.bH
 base:=r.base
 jM:=λb m=>by
  refine QK (QO.mp m) (λm=>?_) λm=>?_
  .exact r.jM b m
  .exact(PI.mp m)▸hb
 jN:=r.jN
 fC:=r.fC
 gens:=r.gens
 drawn:=r.drawn
 os:=r.os
theorem Up.uj(g:Gh)(h:Heap)(a:Addr):Up g h (g.add a) h:=⟨List.prefix_append _ _,λzz x=>x,λzz zz x zz=>x,λzz zz zz x=>x⟩
theorem aD.alloc{o:O}{ob:Obj}{tk:Nat}(r:aD S g s sh)(hf:ob.isFreed=false)(ho:OR S (g.add sh.heap.objs.size) (sh.heap.push ob) sh.heap.objs.size o):
  aD S (g.add sh.heap.objs.size) (s.new o) {sh with heap:=sh.heap.push ob,toks:=tk}/\aG S X g sh.heap (g.add sh.heap.objs.size) (sh.heap.push ob):=by
 have r':=r.push (tk:=tk) ob;have hn:sh.heap.objs.size∉g.ar:=λm=>by obtain⟨i,hi⟩:=PR.mp m;refine aa (r.bc i _ hi) λo' zz h2=>?_;refine aa h2.get λob' h3 zz=>?_;exact absurd (Rk h3) (RP _)
 exact⟨r'.uj hn (r.fresh (Qf (P5 _))) ho,(aG.push ob).uj (Qf (P5 _))⟩
noncomputable def uk (S:SI) (g:Gh) (h:Heap) (env:PM) (m:Str->Option Value) (x:Nat) (v:V):Prop:=
 x<S.nm.length/\match env.kindOf (S.n x) with
  |some .local=>∃y,m (S.n x)=some y/\VR S g h v y|some .cell=>∃c y,env.cells.lookup (S.n x)=some c/\h.IsCell c (some y)/\VR S g h v y|some .free=>∃c y,env.cells.lookup (S.n x)=some c/\h.IsCell c (some y)/\VR S g h v y|_=>True
noncomputable def um (S:SI) (env:PM) (lo:Lo) (g:Gh) (h:Heap):Prop:=
 ∃m,h.Ns env.locals m/\∀x v,ao lo x=some v->uk S g h env m x v
theorem aQ{x:Str}{c:Addr}:∀ {l:List (Str×Addr)},l.lookup x=some c->c∈l.map (·.2)
 |[],e=>by exact ns e
 |p::l,e=>by
  rw[Qi] at e;split at e
  .exact(PD e)▸PJ
  .exact PL _ (aQ e)
noncomputable def IQ (env:PM):Value:=.type (if env.func.isSome then "frame" else "dict")
structure iX (S:SI) (env:PM) (g:Gh) (h:Heap):Prop where
 kind:env.scope.kind=.function
 globals:env.globals=mainGlobals
 builtins:env.builtins=builtinsNs
 here:∃o,h.get? env.locals=some o/\¬sa o/\∀v,o.data≠ .cell v
 qN:env.locals∉g.ar
 jM:S.h0.get? env.locals=none
 inj:∀x y c,env.cells.lookup x=some c->env.cells.lookup y=some c->x=y
 sq:∃o,h.get? env.locals=some o/\o.cls=IQ env
 cells:∀c,c∈env.cells.map (·.2)->c∉g.ar/\S.h0.get? c=none/\(∃v,h.IsCell c v)
noncomputable def dh:Nat->String
 |1=>"KeyError"|2=>"IndexError"|_=>"Exception"
noncomputable def jO (S:SI) (h0:Heap) (g:Gh) (h:Heap) (k:Nat) (e:Value):Prop:=
 ∃a ob vs,e=.ref a/\a∉g.ar/\S.h0.get? a=none/\h.get? a=some ob/\ob.cls=.type (dh k)/\ob.data=.fields vs/\vs[1]?=some .none/\(∃a0,vs[0]?=some a0)/\h0.get? a=none/\a∉g.bH
theorem jO.sr{S:SI}{h0 h1:Heap}{g:Gh}{h:Heap}{k:Nat}{e:Value}(q:jO S h1 g h k e)(d:∀x,h1.get? x=none->h0.get? x=none):jO S h0 g h k e:=
 AK q λa ob vs q=>⟨a,ob,vs,q.imp_right (And.imp_right (And.imp_right (And.imp_right (And.imp_right (And.imp_right (And.imp_right (And.imp_right (And.imp_left (d _)))))))))⟩
noncomputable def W {α β:Type} (S:SI) (X:List Addr) (A:Around) (VQ:Gh->Heap->β->α->Prop) (t:Sem α) (g:Gh) (sh:Shared) (r:R β):Prop:=match r with
 |.no _=>True|.ok b s'=>∀(Q:α->Shared->Prop) (Ex:Ec),(∀g' sh' a,aG S X g sh.heap g' sh'.heap->aD S g' s' sh'->VQ g' sh'.heap b a->Q a sh')->wpAny S.M A t Q Ex sh|.ez k s'=>A.handled=none->∀(Q:α->Shared->Prop) (Ex:Ec),(∀g' sh' e,aG S X g sh.heap g' sh'.heap->aD S g' s' sh'->jO S sh.heap g' sh'.heap k e->Ex e sh')->wpAny S.M A t Q Ex sh
section
variable{α β α' β':Type}{A:Around}{V1:Gh->Heap->β->α->Prop}{V2:Gh->Heap->β'->α'->Prop}{t:Sem α}
theorem W.bind{f:α->Sem α'}{r:R β}{k:β->St->R β'}(w:W S X A V1 t g sh r)
  (c:∀b s1 g1 sh1 a,r=.ok b s1->aG S X g sh.heap g1 sh1.heap->aD S g1 s1 sh1->V1 g1 sh1.heap b a->W S X A V2 (f a) g1 sh1 (k b s1)):W S X A V2 (t>>=f) g sh (r.bind k):=by
 induction r with
 |no n=>trivial|ez n s'=>exact λhh Q Ex hq=>wpAny_bind (w hh _ Ex λg' sh' e h1 h2 h3=>hq g' sh' e h1 h2 h3)|ok b s1=>
  refine(?_:W S X A V2 (t>>=f) g sh (k b s1));have c':=λg1 sh1 a=>c b s1 g1 sh1 a rfl;revert c';cases k b s1 with
  |no n=>intro _;trivial|ez n s2=>intro c' hh Q Ex hq;exact wpAny_bind (w _ Ex λg1 sh1 a e1 r1 v1=>c' g1 sh1 a e1 r1 v1 hh Q Ex λg2 sh2 e e2 r2 v2=>hq g2 sh2 e (e1.trans e2) r2 (v2.sr λzz z=>e1.dG z))|ok b2 s2=>intro c' Q Ex hq;exact wpAny_bind (w _ Ex λg1 sh1 a e1 r1 v1=>c' g1 sh1 a e1 r1 v1 Q Ex λg2 sh2 a2 e2 r2 v2=>hq g2 sh2 a2 (e1.trans e2) r2 v2)
theorem W.ok{b:β}{s':St}(q:∀(Q:α->Shared->Prop) (Ex:Ec),(∀g' sh' a,aG S X g sh.heap g' sh'.heap->aD S g' s' sh'->V1 g' sh'.heap b a->Q a sh')->wpAny S.M A t Q Ex sh):W S X A V1 t g sh (.ok b s'):=q
theorem W.pure{a:α}{b:β}(r:aD S g s sh)(v:V1 g sh.heap b a):W S X A V1 (P2 a) g sh (.ok b s):=λQ Ex hq=>wpAny_pure (hq g sh a aG.refl r v)
theorem W.nil{t:Sem α}{r:R β}(w:W S [] A V1 t g sh r):W S X A V1 t g sh r:=by
 induction r with
 |no n=>trivial|ez n s'=>exact λhh Q Ex hq=>w hh Q Ex λg' sh' e h1 h2 h3=>hq g' sh' e h1.nil h2 h3|ok b s1=>exact λQ Ex hq=>w Q Ex λg' sh' a h1 h2 h3=>hq g' sh' a h1.nil h2 h3
theorem W.rule{t':Sem α}{r:R β}(w:W S X A V1 t g sh r)(h:∀(Q:α->Shared->Prop) (Ex:Ec),wpAny S.M A t Q Ex sh->wpAny S.M A t' Q Ex sh):W S X A V1 t' g sh r:=by
 induction r with
 |no n=>trivial|ez n s'=>exact λhh Q Ex hq=>h Q Ex (w hh Q Ex hq)|ok b s1=>exact λQ Ex hq=>h Q Ex (w Q Ex hq)
theorem W.lW{w':Nat}{x:Option β}(q:∀b,x=some b->W S X A V1 t g sh (.ok b s)):W S X A V1 t g sh (gN w' x s):=by
 induction x with
 |none=>trivial|some b=>exact q b rfl
end
theorem AW{S:SI}{g g':Gh}{h h':Heap}{X:List Addr}(e:aG S X g h g' h'){L:Addr}{m:Str->Option Value}(n:h.Ns L m)(h1:L∉g.ar)(h2:L∉X)(h3:L∉S.c9):h'.Ns L m:=by refine gQ n λo es ep ho hd r=>?_;refine PW (e.c8 L o ho h1 h2 h3) λsl e'=>?_;exact Fo _ es ep e' hd r
section
variable{M:Model}{A:Around}{E:Ec}{s s₀:Shared}
theorem AX{a:Addr}{m}{name:Str}{v:Value}{Q:Unit->Shared->Prop}(hn:s.heap.Ns a m)
  (h:∀h',h'.Ns a (λx=>if x=name then some v else m x)->P0 a s.heap h'->(∀o,s.heap.get? a=some o->∃o',h'.get? a=some o'/\o'.cls=o.cls)->Q () {s with heap:=h',toks:=s.toks+1}):
  wpAny M A (nsSet a name v) Q E s:=λΓ p hΓ=>by
 have A1:=wpAny_nsSet (M:=M) (A:=A) (E:=E) (name:=name) (v:=v) (Q:=λzz s'=>s'.heap.Ns a (λx=>if x=name then some v else m x)/\P0 a s.heap s'.heap) hn (λh' x y=>⟨x,y⟩) Γ p hΓ;refine eD hn λo es ep ho hd hk hm=>?_;have hany:es.any (·.refKey)=false:=by rw[Array.any_eq_false'];intro e he;obtain⟨n,t,h⟩:=hk e he;simp[DictEntry.refKey,h]
 simp only[nsSet,strHash,Sem.wp_bind',Sem.wp_cmd_ask,Sem.wp_pure',Sem.wp_cmd_mkText] at A1⊢;rw[Sem.wp_loadPart_of M Γ _ p {s with toks:=s.toks+1} (o:=o) _ ho] at A1⊢;simp only[hd,aRefKeyMayBeTheName_eq,aRefKeyMayBeTheNameByArray,hany,Bool.and_false,RB,if_false,Sem.wp_cmd_updatePart] at A1⊢;refine nI A1 λB1 B2 B3=>?_;refine⟨B1,h _ B2 B3 λo' ho'=>?_⟩;rw[ho] at ho';injection ho' with ho';subst ho';obtain⟨c,d,dt,sl⟩:=o;simp only at hd;subst hd;cases hi:es.findIdx? (·.key.isStr name) with
 |some i=>exact⟨_,QL _ ho (by simp only[Obj.putName_eq,Obj.putNameByArray,hi];rfl),by simp only[Obj.putName_eq,Obj.putNameByArray,hi]⟩|none=>exact⟨_,QL _ ho (by simp only[Obj.putName_eq,Obj.putNameByArray,hi];rfl),by simp only[Obj.putName_eq,Obj.putNameByArray,hi]⟩
theorem eF{env:PM}{name:Str}{m}{v:Value}{Q:Unit->Shared->Prop}(hl:env.kindOf name=some .local)
  (hn:s.heap.Ns env.locals m)
  (h:∀h',h'.Ns env.locals (λx=>if x=name then some v else m x)->P0 env.locals s.heap h'->(∀o,s.heap.get? env.locals=some o->∃o',h'.get? env.locals=some o'/\o'.cls=o.cls)->
   Q () {s with heap:=h',toks:=s.toks+1})
  (hp:(env.scope.kind==.class||(env.scope.kind==.module&&env.locals !=env.globals))=false:=by rfl):wpAny M A (storeName env name v) Q E s:=by
 rw[storeName_local hl hp];exact AX hn h
noncomputable def hZ (s:Shared) (L:Addr):Prop:=∃o,s.heap.get? L=some o/\o.cls=.type "frame"
theorem iY{env:PM}(f:Str×Value->PUnit->Sem (ForInStep PUnit))(hf:∀n v u,f (n,v) u=(do storeName env n v;pure (.yield ⟨⟩)))(hk:env.scope.kind=.function):
  ∀(binds:List (Str×Value)) (m cm:Str->Option Value) (s:Shared) (Q:PUnit->Shared->Prop),InCallC s₀ env.locals m env.cells cm s->hZ s env.locals->
   (∀x∈binds,env.kindOf x.1=some .local\/(env.kindOf x.1=some .cell/\(env.cells.lookup x.1).isSome=true))->
   (∀s',InCallC s₀ env.locals (bindL env.kindOf binds m) env.cells (bindC env.kindOf binds cm) s'->hZ s' env.locals->Q ⟨⟩ s')->wpAny M A (forIn binds ⟨⟩ f) Q E s
 |[],m,cm,s,Q,x,fa,_,h=>by skip;exact wpAny_pure (h s x fa)
 |(n,v)::r,m,cm,s,Q,x,fa,hkind,h=>by
  rw[List.forIn_cons,hf];have hr:∀y∈r,env.kindOf y.1=some .local\/(env.kindOf y.1=some .cell/\(env.cells.lookup y.1).isSome=true):=λy hy=>hkind y (PL _ hy);rcases hkind (n,v) PJ with hl|⟨hl,hc⟩
  .have next:∀s',InCallC s₀ env.locals (λy=>if y=n then some v else m y) env.cells cm s'->hZ s' env.locals->wpAny M A (forIn r ⟨⟩ f) Q E s':=λs' x' fa'=>iY f hf hk r _ _ s' Q x' fa' hr λs'' x''=>by
    refine h s'' ?_;unfold bindL bindC;rw[if_pos hl,if_pos hl];exact x''
   refine wpAny_bind (wpAny_bind (eF hl x.toInCall.ns (λh' hn' hs' hcl=>wpAny_pure (next _ ⟨⟨?_,hn',λb o e=>?_,x.toInCall.fresh⟩,λk c hc=>?_,x.apart,x.above⟩ ?_)) (by refine hk.symm▸?_;rfl)))
   .refine mZ x.toInCall.same λh₁ tk z2=>?_;exact z2▸(gb h' _ rfl)
   .exact hs'.extBut b o (Qw (PZ (Rk e) x.toInCall.fresh)) (x.toInCall.keep b o e)
   .exact(x.cell k c hc).sameBut hs' (Nat.ne_of_gt (x.above k c (QM hc)))
   .refine aa fa λo h1 h2=>?_;refine aa (hcl o h1) λo' h3 h4=>?_;exact ag o' h3 (h4.trans h2)
  .refine PW (Option.isSome_iff_exists.mp hc) λc hc=>?_;have hnl:¬env.kindOf n=some .local:=by rw[hl];decide
   have hLc:=x.above n c (QM hc);have next:∀s',InCallC s₀ env.locals m env.cells (λy=>if y=n then some v else cm y) s'->hZ s' env.locals->wpAny M A (forIn r ⟨⟩ f) Q E s':=λs' x' fa'=>iY f hf hk r _ _ s' Q x' fa' hr λs'' x''=>by refine h s'' ?_;unfold bindL bindC;rw[if_neg hnl,if_neg hnl];exact x''
   refine wpAny_bind (wpAny_bind (wpAny_storeName_cell hk hl hc (x.cell n c hc) λh' hc' hs'=>wpAny_pure (next _ ⟨⟨?_,x.toInCall.ns.sameBut hs' (Qw hLc),λb o e=>?_,x.toInCall.fresh⟩,λk c' hk'=>?_,x.apart,x.above⟩ ?_)))
   .refine mZ x.toInCall.same λh₁ tk z2=>?_;exact z2▸(gb h' _ rfl)
   .exact hs'.extBut b o (Qw (QD (PZ (Rk e) x.toInCall.fresh) hLc)) (x.toInCall.keep b o e)
   .by_cases hkn:k=n
    .cases hkn;rw[hc] at hk';refine(PD hk')▸?_;simpa using hc'
    .rw[if_neg hkn];refine(x.cell k c' hk').sameBut hs' ?_;exact λe=>hkn (name_of_addr x.apart (QM hk') (e▸QM hc))
   .refine aa fa λo h1 h2=>?_;exact ag o ((hs'.2 _ (Qw hLc)).trans h1) h2
theorem DK{scope:Scope}{globals:Addr}{binds:List (Str×Value)}{qual:Str}{func:Option Addr}{code:Value}{builtins:Addr}{Q:PM->Shared->Prop}
  (hk:scope.kind=.function)
  (hkind:∀x∈binds,scope.names.lookup x.1=some .local\/(scope.names.lookup x.1=some .cell/\((cellsFrom (s.heap.objs.size+1) scope.names []).lookup x.1).isSome=true))
  (hQ:∀env,env=newEnv scope s.heap.objs.size globals (cellsFrom (s.heap.objs.size+1) scope.names []) qual func code none builtins->
   ∀s',InCallC s env.locals (bindL env.kindOf binds λzz=>none) env.cells (bindC env.kindOf binds λzz=>none) s'->hZ s' env.locals->Q env s'):
  wpAny M A (newFunctionEnv scope globals [] binds qual func code none builtins) Q E s:=by
 refine wpAny_bind (wpAny_alloc ?_);refine wpAny_bind (wpAny_layCells _ (λname kind cells=>by cases hkc:kind==Rp<;>simp[hkc]) _ _ _ _ ?_);have ok:=cellsFrom_ok scope.names (s.heap.push {cls:=.type "frame",data:=.dict #[]}) (s.heap.objs.size+1) [] ⟨λzz zz hm=>(nomatch hm),List.Pairwise.nil⟩ (by simp only[Heap.size_push];exact P5 _);rw[Heap.size_push] at ok;refine(show({s with heap:=s.heap.push {cls:=.type "frame",data:=.dict #[]}}:Shared).heap.objs.size=s.heap.objs.size+1 from Heap.size_push ..).symm▸?_;refine wpAny_bind (iY (s₀:=s) (env:=newEnv scope s.heap.objs.size globals (cellsFrom (s.heap.objs.size+1) scope.names []) qual func code none builtins)
  _ (λzz zz zz=>rfl) hk binds (λzz=>none) (λzz=>none) _ _
  ⟨⟨(gb _ _ rfl),(Heap.Ns.new s.heap (.type "frame")).keeps (pushCells_keeps _ _),λb o e=>pushCells_keeps _ _ b o (PO _ e),P5 _⟩,
   λn c hc=>(ok.empty n c (QM hc)).1,ok.apart,λn c hm=>(ok.empty n c hm).2⟩ (ag _ (pushCells_keeps _ _ _ _ (PQ _ rfl)) rfl)
  hkind λs' x fa=>wpAny_pure (hQ _ rfl s' x fa))
theorem DL{scope:Scope}{globals:Addr}{closure:List (Str×Addr)}{qual:Str}{qN:PM}{Q:PM->Shared->Prop}
  (hc:∀x∈scope.names,x.2≠ .cell)
  (hQ:∀h',h'.Ns s.heap.objs.size (λx=>([]:List (Str×Value)).reverse.lookup x)->
   P0 s.heap.objs.size (s.heap.push {cls:=.type "dict",data:=.dict #[]}) h'->(∃o,h'.get? s.heap.objs.size=some o/\o.cls=.type "dict")->
   Q (newEnv scope s.heap.objs.size globals closure qual none .none (some qN) builtinsNs) {s with heap:=h',toks:=s.toks+([]:List (Str×Value)).length}):
  wpAny M A (newFunctionEnv scope globals closure [] qual none .none (some qN)) Q E s:=by
 dsimp only[newFunctionEnv,Option.isSome_some,if_true];refine wpAny_bind (wpAny_alloc ?_);rw[forIn_yield_id closure (λx hx c=>by
  obtain⟨name,kind⟩:=x;have:(kind==Rp)=false:=by simpa using hc _ hx
  simp only[this,RB,if_false])]
 refine wpAny_bind (wpAny_pure (wpAny_bind ?_));exact wpAny_pure (wpAny_pure (hQ _ (Heap.Ns.new ..) (P0.refl ..) (ag _ (PQ _ rfl) rfl)))
end
noncomputable def fL:Option NameKind->Bool
 |some .local=>true|some .cell=>true|some .free=>true|_=>false
noncomputable def zF:Option NameKind->Bool
 |some .local=>true|some .cell=>true|_=>false
noncomputable abbrev Sc:=List (Str×NameKind)
noncomputable def Gm (sc:Sc) (env:PM):Prop:=∀x,fL (env.kindOf x)=fL (sc.lookup x)/\(sc.lookup x=some .globalImplicit->env.kindOf x=some .globalImplicit)/\
 (zF (sc.lookup x)=true->env.kindOf x=sc.lookup x/\(env.kindOf x=some .cell->∃c,env.cells.lookup x=some c))
noncomputable def gm (S:SI) (h:Heap) (l:List PM):Prop:=∀en∈l,∀L,en.frame=some L->S.h0.get? L=none/\∃o es n,h.get? L=some o/\o.cls=.type "frame"/\o.data=.dict es n
structure Dl (S:SI) (hN:Bool) (n:Nat) (A:Around) (h:Heap):Prop where
 depth:A.depth+3*n+3<recursionLimit
 units:A.units+12*n+100<cLine
 hd:hN=true->A.handled=none
 gd:A.guards=some []
 fr:∃l,A.frames=some l/\h.FunFrames S.h0 l/\gm S h l
theorem FunFrames.map{b h h':Heap}(f:∀L o,b.get? L=none->h.get? L=some o->(∀vs,o.data≠ .fields vs)->∃o',h'.get? L=some o'/\∀vs,o'.data≠ .fields vs){l:List PM}:h.FunFrames b l->h'.FunFrames b l:=by
 induction l with
 |nil=>exact λzz=>trivial|cons en l ih=>exact λq=>⟨q.1,bK q.2.1 λL o h2 h3 h4 h5=>aa (f L o h3 h4 h5) λo' a b=>⟨L,o',h2,h3,a,b⟩,ih q.2.2⟩
theorem FunFrames.ext(e:aG S [] g sh.heap g' sh'.heap)(r:aD S g s sh)(r':aD S g' s' sh'){l:List PM}:sh.heap.FunFrames S.h0 l->sh'.heap.FunFrames S.h0 l:=
 FunFrames.map λL o h3 h4 h5=>QN (λhl:L∈g.ar=>PW (PR.mp hl) λi hi=>aa (r'.bc i L (gf e.ar hi)) λo' zz ho'=>dQ ho'.get λob q1 zz zz q4=>⟨ob,q1,q4⟩)
  λhl=>PW (e.c8 L o h4 hl (λm=>nomatch m) (eW r h3)) λsl q=>⟨_,q,h5⟩
theorem OR.su{a:Addr}{o:O}(q:OR S g h a o):∃ob,h.get? a=some ob/\ob.cls≠ .type "frame":=by
 have nf:∀ {ty:String},(ty=="frame")=false->(Value.type ty)≠ .type "frame":=λh e=>by injection e with e;rw[e] at h;exact absurd h (by decide)
 induction o with
 |list vs=>obtain⟨ys,m,k1,_⟩:=q;exact⟨_,k1,nf (by decide)⟩
 |dict es=>obtain⟨ds,m,k1,_⟩:=q;exact⟨_,k1,nf (by decide)⟩
 |set _=>obtain⟨ob,es,ep,t,h1,hx,_⟩:=q;exact⟨_,h1,by refine hx.1.symm▸?_;exact nf (by decide)⟩
 |ns _=>obtain⟨ds,m,k1,_⟩:=q;exact⟨_,k1,nf (by decide)⟩
 |view _ _=>obtain⟨es,ds,m,k1,_⟩:=q;exact⟨_,k1,nf (by decide)⟩
 |dq _=>obtain⟨ds,m,k1,_⟩:=q;exact⟨_,k1,nf (by decide)⟩
theorem gm.ext(e:aG S [] g sh.heap g' h')(r:aD S g s sh){l:List PM}(q:gm S sh.heap l):gm S h' l:=λen m L hL=>by
 obtain⟨h1,o,es,k,h2,h3,h4⟩:=q en m L hL;have hl:L∉g.ar:=λml=>by obtain⟨i,hi⟩:=PR.mp ml;refine aa (r.bc i L hi) λo' zz ho'=>?_;refine aa ho'.su λob q1 q2=>?_;replace q1:=h2.symm.trans q1;obtain rfl:=PD q1;exact q2 h3
 obtain⟨sl,q'⟩:=e.c8 L o h2 hl (λm=>nomatch m) (eW r h1);exact⟨h1,_,es,k,q',h3,h4⟩
structure Lp (S:SI) (sc:Sc) (env:PM) (g:Gh):Prop where
 pU:∀x c,x∈S.fz->env.cells.lookup x=some c->c∈g.bH
 LW:∀x,sc.lookup x=some .free->env.kindOf x≠some .local
 IS:∀x c q,sc.lookup x=some .globalExplicit->S.cS x=some (c,q)->env.code=.ref c/\env.qual=q
theorem Lp.up{sc:Sc}{env:PM}(q:Lp S sc env g)(k:∀c∈g.bH,c∈g'.bH):Lp S sc env g':=⟨λx c m h=>k c (q.pU x c m h),q.LW,q.IS⟩
structure bX (S:SI) (hN:Bool) (n:Nat) (sc:Sc) (A:Around) (g:Gh) (s:St) (sh:Shared) (lo:Lo) (env:PM):Prop where
 a:Dl S hN n A sh.heap
 gu:∃en outer,A.frames=some (en::outer)/\en.frame=env.frame/\∃L,env.frame=some L
 vW:Lp S sc env g
 DM:∀x c,env.cells.lookup x=some c->c∈g.bH->sc.lookup x=some .free
 sc:Gm sc env
 e:iX S env g sh.heap
 r:aD S g s sh
 l:um S env lo g sh.heap
theorem Dl.ext{hN:Bool}{n:Nat}{A:Around}(a:Dl S hN n A sh.heap)(e:aG S [] g sh.heap g' sh'.heap)(r:aD S g s sh)(r':aD S g' s' sh'):Dl S hN n A sh'.heap:=
 ⟨a.depth,a.units,a.hd,a.gd,aO a.fr λl h1 h2 h3=>bk l h1 (FunFrames.ext e r r' h2) (gm.ext e r h3)⟩
theorem fy(r:aD S g s sh){a:Addr}(h:S.h0.get? a=none):a∉S.c9:=eW r h
theorem iX.ext{env:PM}(x:iX S env g sh.heap)(e:aG S [] g sh.heap g' sh'.heap)(r:aD S g s sh):iX S env g' sh'.heap where
 kind:=x.kind
 globals:=x.globals
 builtins:=x.builtins
 here:=by
  refine aO x.here λo h1 h2 h3=>?_;obtain⟨sl,q⟩:=e.c8 _ o h1 x.qN (λm=>nomatch m) (fy r x.jM);refine bk _ q ?_ h3;rintro(z|z|z)
  .exact h2 (.inl z)
  .exact h2 (.inr (.inl z))
  .exact h2 (.inr (.inr z))
 sq:=by obtain⟨o,h1,h2⟩:=x.sq;obtain⟨sl,q⟩:=e.c8 _ o h1 x.qN (λm=>nomatch m) (fy r x.jM);exact ag _ q h2
 qN:=λm=>by
  refine QK (e.c7 _ m) (λz=>?_) λz=>?_
  .exact x.qN z
  .refine aa x.here λo h1 zz=>?_;rw[z] at h1;exact nomatch h1
 jM:=x.jM
 inj:=x.inj
 cells:=λc q=>by
  obtain⟨h1,h2,v,o,h3,h4⟩:=x.cells c q;refine⟨λm=>?_,h2,v,?_⟩
  .refine QK (e.c7 _ m) (λz=>?_) λz=>?_
   .exact h1 z
   .rw[z] at h3;exact nomatch h3
  .obtain⟨sl,q⟩:=e.c8 c o h3 h1 (λm=>nomatch m) (fy r h2);exact ag _ q h4
theorem uk.ext{env:PM}{m:Str->Option Value}{x:Nat}{v:V}(q:uk S g sh.heap env m x v)(w:iX S env g sh.heap)(e:aG S [] g sh.heap g' sh'.heap)(r:aD S g s sh):uk S g' sh'.heap env m x v:=by
 refine⟨q.1,?_⟩;have q:=q.2;have cell:∀ {c y},env.cells.lookup (S.n x)=some c->sh.heap.IsCell c (some y)->sh'.heap.IsCell c (some y):=by rintro c y hc hh0;refine aa hh0 λo h3 h4=>?_;refine nI (w.cells c (aQ hc)) λh1 h2 zz=>?_;obtain⟨sl,q⟩:=e.c8 c o h3 h1 (λm=>nomatch m) (fy r h2);exact ag _ q h4
 split at q
 .refine aa q λy h1 h2=>?_;exact ag y h1 (h2.ext e)
 .obtain⟨c,y,h1,h2,h3⟩:=q;exact⟨c,y,h1,cell h1 h2,h3.ext e⟩
 .obtain⟨c,y,h1,h2,h3⟩:=q;exact⟨c,y,h1,cell h1 h2,h3.ext e⟩
 .trivial
theorem um.ext{env:PM}{lo:Lo}(l:um S env lo g sh.heap)(w:iX S env g sh.heap)(e:aG S [] g sh.heap g' sh'.heap)(r:aD S g s sh):um S env lo g' sh'.heap:=by refine aa l λm h1 h2=>?_;exact ag m (AW e h1 w.qN (λm=>nomatch m) (fy r w.jM)) (λx v q=>(h2 x v q).ext w e r)
theorem bX.step{hN:Bool}{n:Nat}{sc:Sc}{A:Around}{lo:Lo}{env:PM}(p:bX S hN n sc A g s sh lo env)(e:aG S [] g sh.heap g' sh'.heap)(r':aD S g' s' sh'):bX S hN n sc A g' s' sh' lo env:=
 ⟨p.a.ext e p.r r',p.gu,p.vW.up e.bH,λx c q m=>(by
  refine QK (e.dO c m) (λz=>?_) λz=>?_
  .exact p.DM x c q z
  .obtain⟨_,_,v,o,h3,_⟩:=p.e.cells c (aQ q);rw[z] at h3;exact nomatch h3),p.sc,p.e.ext e p.r,r',p.l.ext p.e e p.r⟩
noncomputable def aF (S:SI) (hN:Bool) (n:Nat) (sc:Sc) (ctx:Ctx) (c:Code V) (pe:PE):Prop:=
 ∀A g s sh lo env,bX S hN n sc A g s sh lo env->W S [] A (VR S) (eval pe env) g sh (c ctx lo s)
noncomputable def fc (S:SI) (hN:Bool) (n:Nat) (sc:Sc) (ctx:Ctx) (c:Code V) (pe:PE):Prop:=
 ∀A g s sh lo env,bX S hN n sc A g s sh lo env->W S [] A (λzz zz (b a:Bool)=>a=b) (PySem.isTrue pe env (eval pe env)) g sh (ea c ctx lo s)
section
variable{hN:Bool}{n:Nat}{sc:Sc}{ctx:Ctx}
theorem W.val{A:Around}{t:Sem Value}{v:V}{s:St}(q:∀Q Ex,(∀g' sh' a,aG S X g sh.heap g' sh'.heap->aD S g' s sh'->VR S g' sh'.heap v a->Q a sh')->wpAny S.M A t Q Ex sh):W S X A (VR S) t g sh (.ok v s):=q
theorem Gn{k pos}:aF S hN n sc ctx e.none (.Constant .none k pos):=λA g s sh lo env p=>W.val λQ Ex hq=>
 wpAny_Constant_none (hq g sh _ .refl p.r (by rfl))
theorem Gq{b k pos}:aF S hN n sc ctx (e.bool b) (.Constant (.bool b) k pos):=λA g s sh lo env p=>W.val λQ Ex hq=>
 wpAny_Constant_bool (hq g sh _ .refl p.r (by rfl))
theorem IT{i k pos}:aF S hN n sc ctx (e.int i) (.Constant (.int i) k pos):=λA g s sh lo env p=>W.val λQ Ex hq=>
 wpAny_Constant_int (hq g {sh with toks:=sh.toks+1} _ .refl p.r.Gl (ag _ trivial rfl))
theorem IU{x k pos}:aF S hN n sc ctx (e.str x) (.Constant (.str (ak x)) k pos):=λA g s sh lo env p=>W.val λQ Ex hq=>
 wpAny_Constant_str (hq g {sh with toks:=sh.toks+1} _ .refl p.r.Gl (ag _ trivial rfl))
theorem Fu{x:Nat}{y:Str}{pos}(hy:y=S.n x)(hv:fL (sc.lookup y)=true)(hd:(y==("__debug__":Str))=false)(hc:(y==("__classdict__":Str))=false):aF S hN n sc ctx (e.vr x) (.Name y pos):=λA g s sh lo env p=>by
 subst hy;refine W.lW λv hl=>W.val λQ Ex hq=>?_;refine aa p.l λm h1 h2=>?_;have q:=(h2 x v hl).2;have hk:=(p.sc (S.n x)).1.trans hv;refine wpAny_Name ?_ hd;refine cJ (env.kindOf (S.n x)) (λz=>?_) λk z=>?_
 .rw[z] at hk;exact ft hk
 .rw[z] at hk q;induction k with
  |«local»=>refine aa q λy h3 h4=>?_;exact wpAny_loadName_local p.e.kind z h1 h3 (hq g sh y .refl p.r h4)
  |cell=>obtain⟨c,y,h3,h4,h5⟩:=q;exact wpAny_loadName_cell p.e.kind z h3 h4 (hq g sh y .refl p.r h5)
  |free=>obtain⟨c,y,h3,h4,h5⟩:=q;exact wpAny_loadName_free p.e.kind z h3 h4 (hq g sh y .refl p.r h5) hc
  |_=>exact ft hk
theorem aF.bind{β:Type}{α:Type}{V2:Gh->Heap->β->α->Prop}{c:Code V}{pe:PE}{A:Around}{lo:Lo}{env:PM}{f:Value->Sem α}{k:V->St->R β}(w:aF S hN n sc ctx c pe)(p:bX S hN n sc A g s sh lo env)
  (q:∀v s1 g1 sh1 a,aG S [] g sh.heap g1 sh1.heap->bX S hN n sc A g1 s1 sh1 lo env->VR S g1 sh1.heap v a->W S [] A V2 (f a) g1 sh1 (k v s1)):W S [] A V2 (eval pe env>>=f) g sh ((c ctx lo s).bind k):=
 W.bind (w A g s sh lo env p) λb s1 g1 sh1 a zz e r v=>q b s1 g1 sh1 a e (p.step e r) v
end
section
variable{hN:Bool}{n:Nat}{sc:Sc}{ctx:Ctx}{A:Around}{α β:Type}{V1:Gh->Heap->β->α->Prop}
theorem W.dW{vs:List Value}{t:Sem α}{r:R β}(w:W S X A V1 t g sh r):W S X A V1 (holding vs t) g sh r:=w.rule λzz zz h=>wpAny_holding h
theorem W.aT{pos:Pos}{f:Unit->Sem α}{r:R β}(w:W S X A V1 (f ()) g sh r):W S X A V1 (standAt pos>>=f) g sh r:=w.rule λzz zz h=>wpAny_bind (wpAny_standAt h)
theorem W.wA{vs:List Value}{V1:Gh->Heap->β->Value->Prop}{t:Sem Value}{r:R β}(w:W S X A V1 t g sh r):W S X A V1 (operate vs t) g sh r:=w.rule λzz zz h=>wpAny_operate' h
theorem W.tail{V1:Gh->Heap->β->Value->Prop}{b:PE}{o:Value}{t:Sem Value}{r:R β}(w:W S X A V1 t g sh r):W S X A V1 (t>>=λr=>letTemporaryGo b o r>>=λzz=>P2 r) g sh r:=
 w.rule λzz zz h=>wpAny_bind (wpAny_mono h (λzz zz q=>wpAny_bind (wpAny_letTemporaryGo (wpAny_pure q))) λzz zz q=>q)
theorem Gr{a b:Nat}(h:QT a b=true):a<b:=(ek a b).mp h
theorem gw{a:Nat}(h:aN a=true):a<100000:=Gr h
theorem aL{a b:Bool}:aP a b=true↔a=true/\b=true:=by induction a<;>induction b<;>simp[aP]
theorem gV(i:Int):small i=true↔i.natAbs<1000000000:=ek _ _
theorem aR(x:List Nat):(ak x).length=x.length:=by unfold ak Str.length;simp
theorem kZ(x y:List Nat):ak (x++y)=ak x++ak y:=by unfold ak;refine(?_:_=Str.mk (x.toArray++y.toArray));simp
theorem cg{l:Nat}{vs:List V}(r:aD S g s sh){y:Value}(q:VR S g sh.heap (.ar l) y)(hl:s.get l=some (.list vs)):∃a xs,y=.ref a/\g.ar[l]?=some a/\sh.heap.IsList a xs/\aI S g sh.heap vs xs.toList:=by refine aa q λa h1 z2=>?_;refine z2▸?_;refine aa (r.bc l a h1) λo h2 h3=>?_;rw[hl] at h2;obtain rfl:=PD h2;refine a8 h3 λxs n h4 h5=>?_;exact cZ a xs rfl h1 ⟨_,h4,rfl,n,rfl⟩ h5
theorem dH{l:Nat}{vs:List V}(r:aD S g s sh){y:Value}(q:VR S g sh.heap (.ar l) y)(hl:s.get l=some (.list vs)):∃a xs n,y=.ref a/\g.ar[l]?=some a/\sh.heap.get? a=some {cls:=.type "list",data:=.seq xs n}/\aI S g sh.heap vs xs.toList:=by refine aa q λa h1 z2=>?_;refine z2▸?_;refine aa (r.bc l a h1) λo h2 h3=>?_;rw[hl] at h2;obtain rfl:=PD h2;refine a8 h3 λxs n h4 h5=>?_;exact qL a xs n rfl h1 h4 h5
theorem eO{l:Nat}{es:List (V×V)}(r:aD S g s sh){y:Value}(q:VR S g sh.heap (.ar l) y)(hl:s.get l=some (.dict es)):∃a ds n,y=.ref a/\g.ar[l]?=some a/\sh.heap.get? a=some {cls:=.type "dict",data:=.dict ds n}/\aC S g sh.heap (es.map (·.1)) ds.toList/\aI S g sh.heap (es.map (·.2)) (ds.toList.map (·.val))/\(es.map (·.1)).Nodup:=by refine aa q λa h1 z2=>?_;refine z2▸?_;refine aa (r.bc l a h1) λo h2 h3=>?_;rw[hl] at h2;obtain rfl:=PD h2;refine jA h3 λds n h4 h5 h6 h7 zz=>?_;exact Fp a ds n rfl h1 h4 h5 h6 h7
theorem yl{l:Nat}{vs:List (V×V)}{dv:V}(r:aD S g s sh){y:Value}(q:VR S g sh.heap (.ar l) y)(hl:s.get l=some (.view vs dv)):∃es a ds n,y=.ref a/\g.ar[l]?=some a/\sh.heap.get? a=some {cls:=.type "dict",data:=.dict ds n}/\aC S g sh.heap (es.map (·.1)) ds.toList/\aI S g sh.heap (es.map (·.2)) (ds.toList.map (·.val))/\(es.map (·.1)).Nodup/\∀k v,aE vs k=some v->aA k=true->(aE es k=some v\/(aE es k=.none/\v=dv)):=by refine aa q λa h1 z2=>?_;refine z2▸?_;refine aa (r.bc l a h1) λo h2 h3=>?_;rw[hl] at h2;obtain rfl:=PD h2;refine AK h3 λes ds n hz0=>?_;exact⟨es,a,ds,n,rfl,h1,hz0.1,hz0.2.1,hz0.2.2.1,hz0.2.2.2.1,hz0.2.2.2.2.2⟩
theorem sv{l:Nat}{ss:List (List Nat)}(r:aD S g s sh){y:Value}(q:VR S g sh.heap (.ar l) y)(hl:s.get l=some (.set ss)):∃a,y=.ref a/\g.ar[l]?=some a/\sh.heap.SetOf (strKind S.prog S.w) a (λx=>decide (∃y∈ss,ak y=x)) ss.length:=by refine aa q λa h1 z2=>?_;refine z2▸?_;refine aa (r.bc l a h1) λo h2 h3=>?_;rw[hl] at h2;obtain rfl:=PD h2;exact bk a rfl h1 h3
theorem W.alloc{X:List Addr}{t:Sem Value}{o:O}{ob:Obj}(r:aD S g s sh)(hf:ob.isFreed=false)(ho:OR S (g.add sh.heap.objs.size) (sh.heap.push ob) sh.heap.objs.size o)
  (rule:∀(Q:Ec) (Ex:Ec),(∀tk,Q (.ref sh.heap.objs.size) {sh with heap:=sh.heap.push ob,toks:=tk})->wpAny S.M A t Q Ex sh):W S X A (VR S) t g sh (.ok (.ar s.n) (s.new o)):=λQ Ex hq=>
 rule Q Ex λtk=>by refine dw (aD.alloc (X:=X) (tk:=tk) r hf ho) λr1 e1=>?_;exact hq _ _ _ e1 r1 (ag _ (Gh.gU r _) rfl)
theorem OR.newList{vs:List V}{xs:List Value}(q:aI S g sh.heap vs xs):OR S (g.add sh.heap.objs.size) (sh.heap.push {cls:=.type "list",data:=.seq xs.toArray}) sh.heap.objs.size (.list vs):=
 bW _ _ (PQ _ rfl) (aI.up (Up.uj g _ _) (aI.ext (aG.push (S:=S) (X:=[]) (g:=g) _) (by simpa using q)))
theorem sx{l b:Addr}{xs ys:Array Value}{Q:Ec}{Ex:Ec}(hl:sh.heap.IsList l xs)(hl2:sh.heap.IsList b ys)(hsz:xs.size+ys.size<=sizeLine)
  (h:Q (.ref sh.heap.objs.size) {sh with heap:=sh.heap.push {cls:=.type "list",data:=.seq (xs.toList++ys.toList).toArray}}):wpAny S.M A (binaryOp .Add (.ref l) (.ref b)) Q Ex sh:=by
 obtain⟨⟨cls,dd,data,sl⟩,ho,hc,n,hd⟩:=hl;obtain⟨⟨cls2,dd2,data2,sl2⟩,ho2,hc2,n2,hd2⟩:=hl2;simp only at hc hd hc2 hd2;subst hc hd hc2 hd2;refine concat_meets (ag _ ho rfl) (ag _ ho2 rfl) noFill_list_add seq_list_add PySem.F.slot_list_add PySem.F.entry_list_add (PySem.F.args_list_add_2 _ _) (list_addW l b xs ys n n2 _ _ _ _ hsz) (j2 ho ho2 ?_);refine(show xs++ys=(xs.toList++ys.toList).toArray by simp).symm▸?_;exact h
theorem ic(x:List Nat):∀k,pW x k=(RE k x).flatten
 |0=>rfl|k+1=>by refine(?_:dZ x (pW x k)=_);simp only[bx,ic x k];simp[List.replicate_succ]
theorem AY(x:List Nat)(k:Nat):(RE k (ak x).cps).foldl (· ++ ·) #[]=(pW x k).toArray:=by
 rw[ic];have t5:∀(k:Nat) (acc:Array Nat),(RE k (ak x).cps).foldl (· ++ ·) acc=acc++(RE k x).flatten.toArray:=by
  intro k;induction k with
  |zero=>intro acc;simp|succ k ih=>intro acc;simp only[List.replicate_succ,List.foldl_cons,ih,List.replicate_succ,List.flatten_cons];unfold ak;simp[Array.append_assoc]
 rw[t5];simp
noncomputable def nQ:qF->Operator
 |.add=>.Add|.az=>.Sub|.mul=>.Mult|.vV=>.Mod|.fdiv=>.FloorDiv
theorem W.bR{t:Sem Value}{v:V}(r:aD S g s sh)(rule:∀(Q:Ec) (Ex:Ec),(∀y tk,VR S g sh.heap v y->Q y {sh with toks:=tk})->wpAny S.M A t Q Ex sh):W S X A (VR S) t g sh (.ok v s):=λQ Ex hq=>
 rule Q Ex λy tk q=>hq g _ _ .refl r.Gl q
theorem VR.mkInt{i:Int}{t:Tok}{h:Heap}:VR S g h (.int i) (.int i t):=by exact ag _ trivial rfl
theorem VR.eE{x:List Nat}{t:Tok}{h:Heap}:VR S g h (.str x) (.str (ak x) t):=by exact ag _ trivial rfl
theorem VR.aB{i:Int}{y:Value}{h:Heap}(q:VR S g h (.int i) y):∃t,y=.int i t:=by obtain⟨t,_,e⟩:=q;exact⟨t,e⟩
theorem VR.bG{x:List Nat}{y:Value}{h:Heap}(q:VR S g h (.str x) y):∃t,y=.str (ak x) t:=by obtain⟨t,_,e⟩:=q;exact⟨t,e⟩
theorem VR.cG{vs:List V}{y:Value}{h:Heap}(q:VR S g h (.av vs) y):∃a xs,y=.ref a/\h.IsTuple a xs/\aI S g h vs xs.toList:=by exact q
theorem VR.nR{b:Bool}{y:Value}{h:Heap}(q:VR S g h (.bool b) y):y=.bool b:=by exact q
theorem VR.el{y:Value}{h:Heap}(q:VR S g h .none y):y=.none:=by exact q
theorem VR.AZ{b:Bool}{h:Heap}:VR S g h (.bool b) (.bool b):=by rfl
theorem VR.wC{h:Heap}:VR S g h .none .none:=by rfl
set_option tactic.hygienic true in
theorem zG{o:qF}{a b:V}{x y:Value}(r:aD S g s sh)(hu:A.units+60<cLine)(qa:VR S g sh.heap a x)(qb:VR S g sh.heap b y):W S X A (VR S) (binaryOp (nQ o) x y) g sh (fX o a b s):=by
 clear hu;cases o with
 |add=>
  cases a<;>try trivial
  .rename_i i;cases b<;>try trivial
   rename_i j;obtain⟨t,rfl⟩:=qa.aB;obtain⟨u,rfl⟩:=qb.aB;exact W.bR r λQ Ex k=>add_int (k _ _ VR.mkInt)
  .rename_i p;cases b<;>try trivial
   rename_i q;obtain⟨t,rfl⟩:=qa.bG;obtain⟨u,rfl⟩:=qb.bG;refine(?_:W S X A (VR S) _ g sh (match aN (len p+len q) with|true=>.ok (.str (dZ p q)) s|false=>.no 20));cases z:aN (len p+len q) with
   |false=>trivial|true=>have:=gw z;rw[aJ,aJ] at this;refine W.bR r λQ Ex k=>add_str (λt' tk=>k _ tk ?_) (by rw[aR,aR,sizeLine_eq];exact II this);rw[bx,<-kZ];exact VR.eE
  .rename_i l;cases b<;>try trivial
   rename_i m;show W S X A (VR S) _ g sh (match s.get l with
    |some (.list x)=>match s.get m with
     |some (.list y)=>(match aN (len x+len y) with|true=>.ok (.ar s.n) (s.new (.list (dZ x y)))|false=>.no 20)|_=>.no 20
    |_=>.no 20)
   split<;>try trivial
   rename_i vs hvs;split<;>try trivial
   rename_i ws hws;split<;>try trivial
   rename_i hz;have:=gw hz;rw[aJ,aJ] at this;refine bK (cg r qa hvs) λla xs z2 _ h1 q1=>?_;obtain rfl:=z2;refine bK (cg r qb hws) λlb ys z2 _ h2 q2=>?_;obtain rfl:=z2;rw[bx];refine W.alloc r rfl (OR.newList (q1.dZ q2)) λQ Ex k=>sx h1 h2 ?_ (k _);have e1:=q1.length;have e2:=q2.length;simp only[QG] at e1 e2;rw[sizeLine_eq];exact LI e1 e2 this
 |az=>
  cases a<;>try trivial
  cases b<;>try trivial
  obtain⟨t,rfl⟩:=qa.aB;obtain⟨u,rfl⟩:=qb.aB;exact W.bR r λQ Ex k=>sub_int (k _ _ VR.mkInt)
 |mul=>
  cases a<;>try trivial
  .cases b<;>try trivial
   rename_i i j;obtain⟨t,rfl⟩:=qa.aB;obtain⟨u,rfl⟩:=qb.aB;show W S X A (VR S) _ g sh (match aP (small i) (small j) with|true=>.ok (.int (i*j)) s|false=>.no 22);cases z:aP (small i) (small j) with
   |false=>trivial|true=>have z':=(gV i).mp (aL.mp z).1;exact W.bR r λQ Ex k=>PySem.P.mul_int (k _ _ VR.mkInt) (IntMulOk.of_left (intBits_le_64 (IK z') (IL z')))
  .rename_i p;cases b<;>try trivial
   rename_i j;obtain⟨t,rfl⟩:=qa.bG;obtain⟨u,rfl⟩:=qb.aB;show W S X A (VR S) _ g sh (match aP (small j) (aN (len p*j.toNat)) with|true=>.ok (.str (pW p j.toNat)) s|false=>.no 22);cases z:aP (small j) (aN (len p*j.toNat)) with
   |false=>trivial|true=>
    have z1:=(gV j).mp (aL.mp z).1;have z2:=gw (aL.mp z).2;rw[aJ] at z2;refine W.bR r λQ Ex k=>PySem.P.mul_str (by
     have h1:¬j< -(2^63:Int):=LK z1;have h2:¬j≥2^63:=LM z1;rw[decide_eq_false h1,decide_eq_false h2];rfl) (λh1 _ h3=>?_) (λh1 _=>?_) ?_
    .rw[aR] at h3;have:((2:Int)^63-1)/j≥100000:=by
      have e:(100000:Int)*j<=2^63-1:=by omega
      exact Int.le_ediv_of_mul_le (by omega) e
     have hp:p.length<100000:=by have:p.length*1<=p.length*j.toNat:=Nat.mul_le_mul_left _ (by omega);omega
     lia
    .rw[aR];unfold Builtin.Str.tooLong;rw[sizeLine_eq];exact decide_eq_false (by omega)
    .by_cases h1:j<1
     .rw[if_pos h1];have e0:j.toNat=0:=by omega
      refine⟨by decide,?_⟩;refine k _ _ ?_;rw[e0];exact VR.eE (x:=[])
     .rw[if_neg h1];by_cases h2:(j==1||(ak p).length==0)=true
      .rw[if_pos h2];refine k _ sh.toks ?_;have:pW p j.toNat=p:=by
        rcases(Bool.or_eq_true _ _).mp h2 with h2|h2
        .have:j=1:=by simpa using h2
         subst this;show dZ p []=p;rw[bx];simp
        .have:p.length=0:=by rw[aR] at h2;simpa using h2
         have:p=[]:=List.length_eq_zero_iff.mp this;subst this;rw[ic];simp
       rw[this];exact VR.eE
      .rw[if_neg h2,AY];refine⟨?_,k _ _ (VR.eE (x:=pW p j.toNat))⟩;show(ak (pW p j.toNat)).length<=sizeLine;rw[aR,ic,sizeLine_eq];have:(RE j.toNat p).flatten.length=p.length*j.toNat:=by
        simp[Nat.mul_comm]
       exact r8 this.symm z2
 |vV=>
  cases a<;>try trivial
  cases b<;>try trivial
  rename_i i j;obtain⟨t,rfl⟩:=qa.aB;obtain⟨u,rfl⟩:=qb.aB;show W S X A (VR S) _ g sh (match gM 0 j with|true=>.ok (.int (Int.fmod i j)) s|false=>.no 24);cases z:gM 0 j with
  |false=>trivial|true=>have:=(de 0 j).mp z;exact W.bR r λQ Ex k=>mod_int (by omega) (k _ _ VR.mkInt)
 |fdiv=>
  cases a<;>try trivial
  cases b<;>try trivial
  rename_i i j;obtain⟨t,rfl⟩:=qa.aB;obtain⟨u,rfl⟩:=qb.aB;show W S X A (VR S) _ g sh (match aP (gM 0 j) (small j) with|true=>.ok (.int (Int.fdiv i j)) s|false=>.no 28);cases z:aP (gM 0 j) (small j) with
  |false=>trivial|true=>
   have z1:=(de 0 j).mp (aL.mp z).1;have z2:=(gV j).mp (aL.mp z).2;refine W.bR r λQ Ex k=>floordiv_int (by omega) (k _ _ VR.mkInt) (.inl ?_);unfold Builtin.divisionGoesByPylong;have:j.natAbs.log2<30:=by rw[Nat.log2_lt (by omega)];exact PN z2 (by decide)
   have e:(if(j==0)=true then 0 else j.natAbs.log2/30+1)<=300:=by split<;>omega
   simp only[decide_eq_false (Nat.not_lt.mpr e)];rfl
theorem IW{o:qF}{a b:Code V}{l r:PE}{pos:Pos}(wa:aF S hN n sc ctx a l)(wb:aF S hN n sc ctx b r):aF S hN n sc ctx (e.dX o a b) (.BinOp l (nQ o) r pos):=λA g s sh lo env p=>by refine wa.bind p λva s1 g1 sh1 x e1 p1 qa=>?_;refine W.bind (W.dW (wb A g1 s1 sh1 lo env p1)) λvb s2 g2 sh2 y zz e2 r2 qb=>?_;refine W.aT (W.wA (zG r2 ?_ (qa.ext e2) qb));have:=p.a.units;exact ul this rfl
theorem jm{α:Type}{l:List α}{b:Bool}(h:nD l=some b):l.length<100000/\b= !l.isEmpty:=by
 unfold nD at h;refine cy (aN (len l)) (λz=>?_) λz=>?_
 .replace h:=z▸h;exact ns h
 .rw[z] at h;have:=gw z;rw[aJ] at this;clear z;injection h with h;subst h;exact⟨this,by clear this;induction l<;>rfl⟩
theorem ig{l:Nat}{a:Addr}(r:aD S g s sh)(hl:g.ar[l]?=some a):(a==sysModules)=false:=by have h1:=r.jM a (P7 hl);refine PW r.ok.O3 λo h2=>?_;exact beq_eq_false_iff_ne.mpr (λe=>by rw[e,h2] at h1;exact sn h1)
theorem p8{d:Addr}{ds:Array DictEntry}{ep:Nat}{Q:Ec}{Ex:Ec}(hd:(d==sysModules)=false)(ho:sh.heap.get? d=some {cls:=.type "dict",data:=.dict ds ep})
  (h:Q (.int ds.size sh.toks) {sh with toks:=sh.toks+1}):wpAny S.M A (call (.builtin "dict.__len__") [.ref d]) Q Ex sh:=by
 refine wpAny_call_entry F.slot_dict_len ((ag _ ho rfl):sh.TypeIs (.ref d) "dict") F.entry_dict_len ?_ (F.args_dict_len_1 _);refine(?_:wpAny _ _ (dictSize d>>=_) _ _ sh);refine wpAny_bind (wpAny_bind (wpAny_dictEntries ho rfl (wpAny_pure ?_)));refine wpAny_bind (wpAny_pendingCount_other hd ?_);refine wpAny_ret_mkInt ?_;simpa using h
theorem p9{d:Addr}{ds:Array DictEntry}{ep:Nat}{Q:Ec}{Ex:Ec}(hd:(d==sysModules)=false)(ho:sh.heap.get? d=some {cls:=.type "dict",data:=.dict ds ep})(hfit:(ds.size:Int)<2^63)
  (h:Q (.int ds.size (sh.toks+1)) {sh with toks:=sh.toks+1+1}):wpAny S.M A (Builtin.«len» ⟨[.ref d],[]⟩) (λdY s'=>∃r,dY=.done (.ret r)/\Q r s') Ex sh:=by
 have hT:sh.TypeIs (.ref d) "dict":=ag _ ho rfl;refine wpAny_bind (m:=oneArg "len" _) (wpAny_pure ?_);refine wpAny_bind (m:=callSpecial? (.ref d) (sj "__len__")) (wpAny_callSpecial?_slot (name:=sj "__len__") hT F.slot_dict_len (p8 hd ho ?_));refine wpAny_bind (wpAny_holding (wpAny_pure ?_));refine wpAny_bind (wpAny_letGo ?_);refine(?_:wpAny _ _ (if((ds.size:Nat):Int)≥2^63 then _ else _) _ _ _);rw[if_neg (by omega)];exact wpAny_bind (wpAny_mkInt (wpAny_pure (ag _ rfl h)))
theorem sy{d:Addr}{ds:Array DictEntry}{ep:Nat}{Q:Bool->Shared->Prop}{Ex:Ec}(hd:(d==sysModules)=false)(ho:sh.heap.get? d=some {cls:=.type "dict",data:=.dict ds ep})(hfit:(ds.size:Int)<2^63)
  (h:Q (!ds.isEmpty) {sh with toks:=sh.toks+1+1}):wpAny S.M A (truthy (.ref d)) Q Ex sh:=by
 have hT:sh.TypeIs (.ref d) "dict":=ag _ ho rfl;have hne:((ds.size:Int) !=0)= !ds.isEmpty:=by
  unfold Array.isEmpty;refine QK (Nat.eq_zero_or_pos ds.size) (λe=>?_) λe=>?_
  .refine e.symm▸?_;rfl
  .have h2:ds.size≠0:=by omega
   have h1:((ds.size:Int) !=0)=true:=bne_iff_ne.mpr (by omega);simp only[h1,decide_eq_false h2];rfl
 have key:wpAny S.M A (runValue (.builtin "len" ⟨[.ref d],[]⟩)) (λr s'=>r=.int ds.size (sh.toks+1)/\Q (!ds.isEmpty) s') Ex sh:=by
  refine wpAny_runValue (codeAny_builtin entry_len ?_);refine(Around.under_plainId plain_len _).symm▸?_;exact wpAny_mono (p9 (Q:=λr s'=>r=.int ds.size (sh.toks+1)/\Q (!ds.isEmpty) s') hd ho hfit ⟨rfl,h⟩)
   (λdY s' h'=>by obtain⟨r,rfl,hq⟩:=h';exact hq) λzz zz e=>e
 first
  |refine wpAny_bind (wpAny_callSpecial?_none (name:=sj "__bool__") hT noBool_dict ?_)|refine wpAny_bind (wpAny_pure (wpAny_bind (wpAny_callSpecial?_none (name:=sj "__bool__") hT noBool_dict ?_)))
 first
  |refine wpAny_bind (wpAny_specialOf (name:=sj "__len__") hT F.slot_dict_len.lookup ?_)|refine wpAny_bind (wpAny_pure (wpAny_bind (wpAny_specialOf (name:=sj "__len__") hT F.slot_dict_len.lookup ?_)))
 first
  |exact wpAny_bind (wpAny_mono key (λr s' h'=>by obtain⟨rfl,hq⟩:=h';exact wpAny_pure (hne▸hq)) λzz zz e=>e)|exact wpAny_bind (wpAny_pure (wpAny_bind (wpAny_mono key (λr s' h'=>by obtain⟨rfl,hq⟩:=h';exact wpAny_pure (hne▸hq)) λzz zz e=>e)))
noncomputable def ij (K:Frag) (C:Addr):Bool:=findIn K (.ref C) "__bool__"==some none&&findIn K (.ref C) "__len__"==some none
theorem ik{c d:Nat}{y:Value}(r:aD S g s sh){fs:List (Nat×V)}(q:VR S g sh.heap (.bc c d) y)(hd:s.get d=some (.ns fs)):∃a da ca ds n,y=.ref a/\g.ar[d]?=some da/\S.cls[c]?=some ca/\
  sh.heap.get? a=some (instObj ca da)/\sh.heap.get? da=some {cls:=.type "dict",data:=.dict ds n}/\cU S g sh.heap fs ds.toList/\PySem.W.InstAt sh.heap a (instObj ca da) ca (some {cls:=.type "dict",data:=.dict ds n}):=by
 refine eD q λa da ca z3 h1 h2 h3=>?_;refine z3▸?_;refine aa (r.bc d da h1) λo h4 h5=>?_;rw[hd] at h4;obtain rfl:=PD h4;refine mZ h5 λds n hz0=>?_;exact⟨a,da,ca,ds,n,rfl,h1,h2,h3,hz0.1,hz0.2,⟨h3,rfl,rfl,hz0.1⟩⟩
theorem wD(r:aD S g s sh):S.K.In sh.heap:=λa o e=>r.base a o (r.ok.K a o e) (r.ok.KT a o e)
theorem uo{a ca da:Addr}{Q:Bool->Shared->Prop}{Ex:Ec}(X:S.K.In sh.heap)(ho:sh.heap.get? a=some (instObj ca da))(hp:ij S.K ca=true)(h:Q true sh):wpAny S.M A (truthy (.ref a)) Q Ex sh:=by unfold ij at hp;rw[QP,beq_iff_eq,beq_iff_eq] at hp;have ty:Looks S.M sh.heap (typeOf (.ref a)) (.ref ca):=(Looks.ld (part:=none) ho).andThen .now;refine wpAny_bind (m:=callSpecial? (.ref a) (sj "__bool__")) (wpAny_bind (wpAny_bind (ty.here ((looks_findIn X hp.1).here (wpAny_pure ?_)))));refine wpAny_bind (wpAny_bind (ty.here ((looks_findIn X hp.2).here ?_)));exact wpAny_pure h
noncomputable def SI.ip (S:SI):Prop:=∀ca,S.cls[1]?=some ca->ij S.K ca=true
theorem W.IX{V3:Gh->Heap->Bool->Bool->Prop}{t:Sem Bool}{b:Bool}(r:aD S g s sh)(v:V3 g sh.heap b b)(rule:∀(Q:Bool->Shared->Prop) (Ex:Ec),(∀tk,Q b {sh with toks:=tk})->wpAny S.M A t Q Ex sh):W S X A V3 t g sh (.ok b s):=λQ Ex hq=>
 rule Q Ex λtk=>hq g _ _ .refl r.Gl v
set_option tactic.hygienic true in
theorem jn(hT:S.ip){w':Nat}{v:V}{y:Value}(r:aD S g s sh)(q:VR S g sh.heap v y):W S X A (λ_ _ (b a:Bool)=>a=b) (truthy y) g sh (gN w' (aM v s) s):=by
 refine W.lW λb hb=>W.IX r rfl λQ Ex k=>?_;cases v with
 |none=>rw[q.el];obtain rfl:=PD hb;exact wpAny_pure (k _)
 |bool c=>rw[q.nR];exact(PD hb)▸wpAny_truthy_bool (k _)|int i=>
  obtain⟨t,rfl⟩:=q.aB;have:b=(i !=0):=by
   induction i with
   |ofNat m=>
    induction m with
    |zero=>injection hb with hb;refine hb▸?_;rfl|succ m=>injection hb with hb;refine hb▸?_;rfl
   |negSucc m=>injection hb with hb;refine hb▸?_;rfl
  replace k:=this▸k;exact PySem.P.truthy_int (k _)
 |str x=>
  obtain⟨t,rfl⟩:=q.bG;obtain⟨h1,rfl⟩:=jm ((hb:nD x=some b));refine PySem.P.truthy_str (by rw[aR];exact MY h1) ?_;have:(((ak x).length:Int) !=0)= !x.isEmpty:=by
   rw[aR];induction x with
   |nil=>rfl|cons a x=>simp only[Q3];exact bne_iff_ne.mpr (by omega)
  refine this.symm▸?_;exact k _
 |av vs=>
  refine aw q.cG λa xs z2 ht qs=>?_;obtain rfl:=z2;refine dw (jm ((hb:nD vs=some b))) λh1 z1=>?_;obtain rfl:=z1;have hl:=qs.length;simp only[QG] at hl;refine truthy_tuple (by obtain⟨o,ho,hc,n,hd⟩:=ht;exact⟨o,ho,hc,n,hd⟩) (by omega) ?_;have:(!xs.isEmpty)= !vs.isEmpty:=by
   unfold Array.isEmpty;cases vs with
   |nil=>simp at hl;simp[<-hl]|cons a vs=>simp at hl;simp[<-hl]
  simp only[this];exact k _
 |ar l=>
  change (match s.get l with
   |some (.list vs)=>nD vs|some (.dict es)=>nD es|_=>.none)=some b at hb
  split at hb
  .rename_i vs hvs;refine dw (jm hb) λh1 z1=>?_;obtain rfl:=z1;obtain⟨a,xs,rfl,_,h2,q1⟩:=cg r q hvs;have hl:=q1.length;simp only[QG] at hl;refine wpAny_truthy_list h2 (by omega) ?_;have:(!xs.isEmpty)= !vs.isEmpty:=by
    unfold Array.isEmpty;cases vs with
    |nil=>simp at hl;simp[<-hl]|cons a vs=>simp at hl;simp[<-hl]
   simp only[this];exact k _
  .rename_i es hes;refine dw (jm hb) λh1 z1=>?_;obtain rfl:=z1;refine fZ (eO r q hes) λa ds n z3 hl h2 q1 _=>?_;clear hes w';obtain rfl:=z3;have hl':=q1.length;simp only[QG,P9] at hl';refine sy (ig r hl) h2 (by omega) ?_;have:(!ds.isEmpty)= !es.isEmpty:=by
    unfold Array.isEmpty;clear q1 hl Ex;induction es with
    |nil=>simp at hl';simp[<-hl']|cons a vs=>simp at hl';simp[<-hl']
   refine this.symm▸?_;exact k _
  .exact ns hb
 |bc c d=>
  change (match P8 c 1 with|true=>some true|false=>none)=some b at hb;refine cy (P8 c 1) (λz=>?_) λz=>?_
  .rw[z] at hb;exact ns hb
  .rw[z] at hb;injection hb with hb;subst hb;have:=(cD c 1).mp z;subst this;refine eD q λa da ca z3 h1 h2 h3=>?_;exact z3▸uo (wD r) h3 (hT ca h2) (k sh.toks)
 |qE _ _=>exact ns hb|cX _=>exact ns hb
theorem uq(as:List V)(d:Nat):eU as d=bS as d:=by
 induction as with
 |nil=>rfl|cons a as ih=>refine(?_:(PS false (eU as d) (bV a d):Bool)=(PS false (bS as d) (bV a d):Bool));rw[ih]
theorem ym(a b:V):mG (jk a b)=j3 a b:=by unfold j3;cases jk a b<;>rfl
theorem zH{x:V}{l:List V}{d:Nat}(hx:bV x d=true)(hl:bS l d=true):xZ x l=true↔x∈l:=by
 induction l with
 |nil=>simp[xZ]|cons y l ih=>
  refine dw ((bL y l d).mp hl) λh1 h2=>?_;refine(?_:PS (xZ x l) true (mG (jk y x))=true↔_);have e:mG (jk y x)=true↔y=x:=by rw[ym];exact dg h1 hx
  cases z:mG (jk y x) with
  |true=>simp[(e.mp z).symm]|false=>
   have:y≠x:=λq=>by rw[e.mpr q] at z;exact tf z
   refine(ih h2).trans ?_;constructor
   .exact λq=>PL _ q
   .intro q;rcases PU.mp q with q|q
    .exact absurd q.symm this
    .exact q
theorem jC{x:V}{l:List V}{b:Bool}(hc:contains x l=some b):bV x 8=true/\bS l 8=true/\(b=true↔x∈l):=by
 unfold contains aA at hc;cases h1:bV x 8 with
 |false=>replace hc:=h1▸hc;exact ns hc|true=>
  cases h2:eU l 8 with
  |false=>simp only[h1,h2] at hc;exact ns hc|true=>rw[h1,h2] at hc;refine(PD hc)▸?_;rw[uq] at h2;exact j2 rfl h2 (zH h1 h2)
theorem qO{l:List V}{d:Nat}(hl:bS l d=true){v:V}(hv:v∈l):bV v d=true:=by refine PW (PR.mp hv) λi hi=>?_;exact cw hl hi
theorem aI.mem{vs:List V}{xs:List Value}(q:aI S g h vs xs){y:Value}(hy:y∈xs):∃v∈vs,VR S g h v y:=by
 refine PW (PR.mp hy) λi hi=>?_;have hlt:i<vs.length:=by simp only[q.length];exact(PX.mp hi).1
 refine aa (q.get (PK hlt)) λx h1 h2=>?_;replace h1:=hi.symm.trans h1;exact(PD h1)▸(ag _ (List.getElem_mem hlt) h2)
open Classical in
theorem qP{x:V}{vs:List V}{xs:List Value}{xk:Value}(hu:A.units+10<cLine)(hx:bV x 8=true)(hl:bS vs 8=true)(qx:VR S g sh.heap x xk)(q:aI S g sh.heap vs xs):
  (∀y,y∈xs->EqAt A.in1 sh y xk (decide (VR S g sh.heap x y)))/\(xs.any (λy=>decide (VR S g sh.heap x y))=true↔x∈vs):=by
 constructor
 .intro y hy;refine aa (q.mem hy) λv h1 h2=>?_;have hv:=qO hl h1;have e:=kg (A:=A.in1) 8 (Qg hu) hv hx h2 qx;have:j3 v x=decide (VR S g sh.heap x y):=by
   rw[QJ,dg hv hx,decide_eq_true_iff];exact⟨λe=>e▸h2,λz=>VR.fn hv hx h2 z⟩
  refine this▸?_;exact e
 .refine List.any_eq_true.trans ?_;constructor
  .rintro hh0;refine aa hh0 λy h1 h2=>?_;have h2:=of_decide_eq_true h2;refine aa (q.mem h1) λv h3 h4=>?_;refine(VR.fn hx (qO hl h3) h2 h4).symm▸?_;exact h3
  .intro hm;refine PW (PR.mp hm) λi hi=>?_;refine aa (q.get hi) λy h1 h2=>?_;exact ag y (P7 h1) (decide_eq_true h2)
set_option tactic.hygienic true in
theorem A2(d:Nat){A:Around}{sh:Shared}{a b:V}{x y:Value}(hu:A.units+d<cLine)(ha:bV a d=true)(hb:bV b d=true)(qa:VR S g sh.heap a x)(qb:VR S g sh.heap b y):
  RcAt A sh x y (j3 a b)/\RcNeAt A sh x y (!j3 a b):=by
 have hu':A.units<cLine:=(PY (Qz _ _) hu);cases a<;>first|(exact ft ha;done)|skip
 all_goals cases b<;>first|(exact ft hb;done)|skip
 all_goals unfold VR at qa qb
 .subst qa qb;exact⟨RcAt.none_none,RcNeAt.none_none⟩
 .subst qa;obtain⟨_,_,rfl⟩:=qb;exact⟨RcAt.none_int _ _,RcNeAt.none_int _ _⟩
 .subst qa;obtain⟨_,_,rfl⟩:=qb;exact⟨RcAt.none_str _ _,RcNeAt.none_str _ _⟩
 .subst qa;obtain⟨_,_,rfl,ht,_⟩:=qb;exact⟨RcAt.none_tuple ht hu',RcNeAt.none_tuple ht hu'⟩
 .subst qb;obtain⟨_,_,rfl⟩:=qa;exact⟨RcAt.int_none _ _,RcNeAt.int_none _ _⟩
 .obtain⟨_,_,rfl⟩:=qa;obtain⟨_,_,rfl⟩:=qb;rename_i p q _ _ _ _;rw[show j3 (.int p) (.int q)=(p==q) from wm p q];exact⟨RcAt.int_int _ _ _ _,RcNeAt.int_int _ _ _ _⟩
 .obtain⟨_,_,rfl⟩:=qa;obtain⟨_,_,rfl⟩:=qb;exact⟨RcAt.int_str _ _ _ _,RcNeAt.int_str _ _ _ _⟩
 .obtain⟨_,_,rfl⟩:=qa;obtain⟨_,_,rfl,ht,_⟩:=qb;exact⟨RcAt.int_tuple _ _ ht hu',RcNeAt.int_tuple _ _ ht hu'⟩
 .subst qb;obtain⟨_,_,rfl⟩:=qa;exact⟨RcAt.str_none _ _,RcNeAt.str_none _ _⟩
 .obtain⟨_,_,rfl⟩:=qa;obtain⟨_,_,rfl⟩:=qb;exact⟨RcAt.str_int _ _ _ _,RcNeAt.str_int _ _ _ _⟩
 .obtain⟨_,_,rfl⟩:=qa;obtain⟨_,_,rfl⟩:=qb;rename_i p q _ _ _ _;rw[show j3 (.str p) (.str q)=(ak p==ak q) from wq p q];exact⟨RcAt.str_str _ _ _ _,RcNeAt.str_str _ _ _ _⟩
 .obtain⟨_,_,rfl⟩:=qa;obtain⟨_,_,rfl,ht,_⟩:=qb;exact⟨RcAt.str_tuple _ _ ht hu',RcNeAt.str_tuple _ _ ht hu'⟩
 .subst qb;obtain⟨_,_,rfl,ht,_⟩:=qa;exact⟨RcAt.tuple_none ht hu',RcNeAt.tuple_none ht hu'⟩
 .obtain⟨_,_,rfl⟩:=qb;obtain⟨_,_,rfl,ht,_⟩:=qa;exact⟨RcAt.tuple_int _ _ ht hu',RcNeAt.tuple_int _ _ ht hu'⟩
 .obtain⟨_,_,rfl⟩:=qb;obtain⟨_,_,rfl,ht,_⟩:=qa;exact⟨RcAt.tuple_str _ _ ht hu',RcNeAt.tuple_str _ _ ht hu'⟩
 .rename_i as bs;induction d with
  |zero=>exact ft ha|succ d=>
  have ha':bS as d=true:=by rw[<-eV];exact ha
  have hb':bS bs d=true:=by rw[<-eV];exact hb
  refine aw qa λl xs z2 ht q1=>?_;refine z2▸?_;refine aw qb λm ys z2 ht' q2=>?_;refine z2▸?_;have l1:=q1.length;have l2:=q2.length;have s1:xs.size=as.length:=by simp only[l1];simp
  have s2:ys.size=bs.length:=by simp only[l2];simp
  have each:∀j (h1:j<xs.size) (h2:j<ys.size),EqAt A.in1 sh xs[j] ys[j] (j3 (as.getD j .none) (bs.getD j .none)):=λj h1 h2=>by
   have p1:j<as.length:=by exact Gg h1 s1
   have p2:j<bs.length:=by exact Gg h2 s2
   refine aa (q1.get (PK p1)) λu hu1 hu2=>?_;refine aa (q2.get (PK p2)) λv hv1 hv2=>?_;have e1:xs[j]=u:=by
    have:xs.toList[j]?=some xs[j]:=by simp[h1]
    rw[hu1] at this;exact(PD this).symm
   have e2:ys[j]=v:=by
    have:ys.toList[j]?=some ys[j]:=by simp[h2]
    rw[hv1] at this;exact(PD this).symm
   simp only[e1,e2,Qb,Qb,PK p1,PK p2];exact kg d (A:=A.in1) (by refine(?_:A.units+1+d<cLine);exact LF hu) (cw ha' (PK p1)) (cw hb' (PK p2)) hu2 hv2
  have z1:=RcAt.tuples ht ht' hu' each;have z2:=RcNeAt.tuples ht ht' hu' each;rw[s1,s2,hM as bs d ha' hb'] at z1 z2;exact⟨z1,z2⟩
theorem wG(d:Nat){A:Around}{sh:Shared}{as bs:List V}{l m:Addr}{xs ys:Array Value}(hu:A.units+d+1<cLine)(hl:sh.heap.IsList l xs)(hm:sh.heap.IsList m ys)(ha:bS as d=true)(hb:bS bs d=true)(q1:aI S g sh.heap as xs.toList)(q2:aI S g sh.heap bs ys.toList)(hs:as.length=bs.length):
  RcAt A sh (.ref l) (.ref m) (j3 (.av as) (.av bs))/\RcNeAt A sh (.ref l) (.ref m) (!j3 (.av as) (.av bs)):=by
 have hu':A.units<cLine:=(fk hu);have l1:=q1.length;have l2:=q2.length;have s1:xs.size=as.length:=by rw[l1];simp
 have s2:ys.size=bs.length:=by rw[l2];simp
 have each:∀j (h1:j<xs.size) (h2:j<ys.size),EqAt A.in1 sh xs[j] ys[j] (j3 (as.getD j .none) (bs.getD j .none)):=λj h1 h2=>by
  have p1:j<as.length:=by exact Gg h1 s1
  have p2:j<bs.length:=by exact Gg p1 hs
  refine aa (q1.get (PK p1)) λu hu1 hu2=>?_;refine aa (q2.get (PK p2)) λv hv1 hv2=>?_;have e1:xs[j]=u:=by
   have:xs.toList[j]?=some xs[j]:=by simp[h1]
   rw[hu1] at this;exact(PD this).symm
  have e2:ys[j]=v:=by
   have:ys.toList[j]?=some ys[j]:=by simp[h2]
   rw[hv1] at this;exact(PD this).symm
  simp only[e1,e2,Qb,Qb,PK p1,PK p2];exact kg d (A:=A.in1) (by refine(?_:A.units+1+d<cLine);exact LF hu) (cw ha (PK p1)) (cw hb (PK p2)) hu2 hv2
 have z1:=RcAt.lists hl hm (IM s1 hs s2.symm) hu' each;have z2:=RcNeAt.lists hl hm (IM s1 hs s2.symm) hu' each;have z:=hM as bs d ha hb;rw[show min as.length bs.length=as.length by exact by simp[hs],show(as.length==bs.length)=true by simp[hs],Bool.and_true] at z;rw[s1,z] at z1 z2;exact⟨z1,z2⟩
noncomputable def A3:AH->CmpOp
 |.eq=>.Eq|.ne=>.NotEq|.lt=>.Lt|.le=>.LtE|.gt=>.Gt|.ge=>.GtE|.is=>.Is|.t9=>.IsNot|.mF=>.In|.dA=>.NotIn
theorem gW{f:Bool->Bool}{x:Option Bool}{b:Bool}(h:ub f x=some b):∃c,x=some c/\b=f c:=by
 induction x with
 |none=>exact ns h|some c=>exact(PD h)▸(ag c rfl rfl)
theorem iq(b:Bool):eA b= !b:=by induction b<;>rfl
set_option tactic.hygienic true in
theorem ur{a b:V}{r:Bool}(hq:Ff a b s=some r){x y:Value}(rl:aD S g s sh)(hu:A.units+62<cLine)(qa:VR S g sh.heap a x)(qb:VR S g sh.heap b y):
  RcAt A sh x y r/\RcNeAt A sh x y (!r):=by
 have fV:∀ {a b:V},Io a b=some r->VR S g sh.heap a x->VR S g sh.heap b y->RcAt A sh x y r/\RcNeAt A sh x y (!r):=by
  intro a b hq qa qb;unfold Io at hq;refine cy (bV a 60) (λh1=>?_) λh1=>?_
  .replace hq:=h1▸hq;exact ns hq
  .refine cy (bV b 60) (λh2=>?_) λh2=>?_
   .simp only[h1,h2] at hq;exact ns hq
   .rw[h1,h2] at hq;have:=A2 60 (A:=A) (Gd hu rfl) h1 h2 qa qb;have hq:jk a b=some r:=hq;have e:j3 a b=r:=by unfold j3;rw[hq];rfl
    rw[e] at this;exact this
 unfold Ff at hq;split at hq
 .split at hq
  .rename_i l m;split at hq
   .rename_i xs hx;split at hq
    .rename_i ys hy;refine bK (cg rl qa hx) λa ws z2 _ I1 q1=>?_;refine z2▸?_;refine bK (cg rl qb hy) λb zs z2 _ I2 q2=>?_;refine z2▸?_;have l1:=q1.length;have l2:=q2.length;simp only[QG] at l1 l2;unfold Ip at hq;refine cy (P8 (len xs) (len ys)) (λz=>?_) λz=>?_
     .replace hq:=z▸hq;refine(PD hq)▸?_;have hne:xs.length≠ys.length:=λe=>by
       simp only[aJ,aJ,e,RL] at z;exact tf z
      have hsz:(ws.size !=zs.size)=true:=bne_iff_ne.mpr (by omega);exact⟨RcAt.lists_lengths I1 I2 hsz (by omega),RcNeAt.lists_lengths I1 I2 hsz (by omega)⟩
     .replace hq:=z▸hq;have he:=(cD _ _).mp z;simp only[aJ,aJ] at he;refine cy (eU xs 60) (λk1=>?_) λk1=>?_
      .replace hq:=k1▸hq;exact ns hq
      .refine cy (eU ys 60) (λk2=>?_) λk2=>?_
       .simp only[k1,k2] at hq;exact ns hq
       .rw[k1,k2] at hq;rw[uq] at k1 k2;have:=wG 60 (A:=A) (Qg hu) I1 I2 k1 k2 q1 q2 he;have hq:jk (.av xs) (.av ys)=some r:=hq;have e:j3 (.av xs) (.av ys)=r:=by unfold j3;rw[hq];rfl
        rw[e] at this;exact this
    .exact ns hq
   .exact ns hq
  .exact ns hq
 .exact fV hq qa qb
theorem A4(c:Nat)(y:List Nat):AI c y=true↔c∈y:=by
 induction y with
 |nil=>simp[AI]|cons a y ih=>
  refine(?_:PS (AI c y) true (P8 a c)=true↔_);cases z:P8 a c with
  |true=>simp[(cD a c).mp z]|false=>
   refine ih.trans ?_;have:c≠a:=λe=>by rw[e,RL] at z;exact tf z
   simp[this]
theorem yo(c:Nat)(y:List Nat):(!(Builtin.Str.occurrences (ak y) (ak [c]) 0 (ak y).length 1).isEmpty)=AI c y:=by
 rw[QJ,StrLaws.found_iff,A4];constructor
 .rintro⟨i,hi⟩;have:=(StrLaws.subAt_one (ak y) c i).mp hi;exact P7 (by simpa [ak] using this)
 .intro hm;refine PW (PR.mp hm) λi hi=>?_;exact⟨i,(StrLaws.subAt_one (ak y) c i).mpr (by simpa [ak] using hi)⟩
theorem uu(x:List Nat)(l:List (List Nat)):rV x l=true↔x∈l:=by
 induction l with
 |nil=>simp[rV]|cons a y ih=>
  refine(?_:PS (rV x y) true (hJ a x)=true↔_);cases z:hJ a x with
  |true=>simp[(gh a x).mp z]|false=>
   refine ih.trans ?_;have:x≠a:=λe=>by rw[e,(gh a a).mpr rfl] at z;exact tf z
   simp[this]
end
noncomputable def A5 (es:List (V×V)):Prop:=∀p∈es,aA p.1=true
theorem eG(p:V×V)(es:List (V×V))(k:V):aE (p::es) k=if mG (jk p.1 k) then some p.2 else aE es k:=by refine(?_:(PS (aE es k) (some p.2) (mG (jk p.1 k)):Option V)=_);cases mG (jk p.1 k)<;>rfl
theorem lh(p:V×V)(es:List (V×V))(k v:V):bD (p::es) k v=if mG (jk p.1 k) then(p.1,v)::es else p::bD es k v:=by refine(?_:(PS (p::bD es k v) ((p.1,v)::es) (mG (jk p.1 k)):List (V×V))=_);cases mG (jk p.1 k)<;>rfl
theorem Ic{a k:V}(h1:aA a=true)(h2:aA k=true):mG (jk a k)=true↔a=k:=by rw[ym];exact dg h1 h2
theorem nT{k:V}(hk:aA k=true):∀ {es:List (V×V)},A5 es->k∉es.map (·.1)->aE es k=none
 |[],_,_=>rfl|p::es,hd,hn=>by rw[eG,if_neg (λq=>hn (by refine(Ic (hd p PJ) hk).mp q▸?_;exact PJ))];exact nT hk (λq hq=>hd q (PL _ hq)) λm=>hn (PL _ m)
theorem uv{k:V}(hk:aA k=true):∀ {es:List (V×V)} {j:Nat} {p:V×V},A5 es->(es.map (·.1)).Nodup->es[j]?=some p->p.1=k->aE es k=some p.2
 |[],j,p,_,_,e,_=>by simp at e
 |q::es,j,p,hd,hn,e,hp=>by
  rw[eG];induction j with
  |zero=>simp at e;subst e;exact if_pos ((Ic (hd _ PJ) hk).mpr hp)
  |succ j=>have hm:p∈es:=P7 (by simpa using e);rw[Qe,Qv] at hn;refine(if_neg (λz=>hn.1 (by simp only[(Ic (hd _ PJ) hk).mp z,<-hp];exact Q5 hm))).trans ?_;exact uv hk (λx hx=>hd x (PL _ hx)) hn.2 (j:=j) (by simpa using e) hp
theorem nU{k v:V}(hk:aA k=true):∀ {es:List (V×V)},A5 es->k∉es.map (·.1)->bD es k v=es++[(k,v)]
 |[],_,_=>rfl|p::es,hd,hn=>by rw[lh,if_neg (λq=>hn (by refine(Ic (hd p PJ) hk).mp q▸?_;exact PJ)),nU hk (λq hq=>hd q (PL _ hq)) λm=>hn (PL _ m)];rfl
theorem sz{k v:V}(hk:aA k=true):∀ {es:List (V×V)} {j:Nat} {p:V×V},A5 es->(es.map (·.1)).Nodup->es[j]?=some p->p.1=k->bD es k v=es.set j (p.1,v)
 |[],j,p,_,_,e,_=>by simp at e
 |q::es,j,p,hd,hn,e,hp=>by
  rw[lh];induction j with
  |zero=>simp at e;subst e;refine(if_pos ((Ic (hd _ PJ) hk).mpr hp)).trans ?_;rfl
  |succ j=>have hm:p∈es:=P7 (by simpa using e);rw[Qe,Qv] at hn;rw[if_neg (λz=>hn.1 (by simp only[(Ic (hd _ PJ) hk).mp z,<-hp];exact Q5 hm)),sz hk (λx hx=>hd x (PL _ hx)) hn.2 (j:=j) (by simpa using e) hp];rfl
theorem aC.LX{ks:List V}{ds:List DictEntry}(q:aC S g h ks ds):∀k∈ks,aA k=true:=by
 induction q with
 |nil=>intro k m;cases m
 |cons h1 h2 h3 _ ih=>
  intro k m;clear a h2 h1;rcases PU.mp m with rfl|m
  .exact h3
  .exact ih k m
theorem aC.IY{ks:List V}{ds:List DictEntry}(q:aC S g h ks ds){k:V}{e:DictEntry}(h1:e.hash=hV S.w k)(h2:VR S g h k e.key)(h3:aA k=true):aC S g h (ks++[k]) (ds++[e]):=by
 induction q with
 |nil=>exact .cons h1 h2 h3 .nil|cons a b c _ ih=>exact .cons a b c ih
theorem aC.A6{ks:List V}{ds:List DictEntry}(q:aC S g h ks ds)(y:Value):∀(j:Nat),aC S g h ks (ds.modify j λe=> {e with val:=y}):=by
 induction q with
 |nil=>intro j;simpa using aC.nil|cons a b c q ih=>
  intro j;induction j with
  |zero=>exact .cons a b c q|succ j=>exact .cons a b c (ih j)
section
variable{A:Around}{d:Addr}{ds:Array DictEntry}{nn:Nat}{es:List (V×V)}{k:V}{key:Value}{Ex:Ec}
theorem jo(hes:aC S g h (es.map (·.1)) ds.toList):A5 es:=λp hp=>hes.LX _ (Q5 hp)
theorem dR{Q:Option Value->Shared->Prop}(hu:A.units+8<cLine)(hk:aA k=true)(qk:VR S g sh.heap k key)(ho:sh.heap.get? d=some {cls:=.type "dict",data:=.dict ds nn})
  (hes:aC S g sh.heap (es.map (·.1)) ds.toList) (hvs:aI S g sh.heap (es.map (·.2)) (ds.toList.map (·.val))) (hn:(es.map (·.1)).Nodup)
  (hnone:aE es k=none->∀tk,Q none {sh with toks:=tk}) (hsome:∀v y tk,aE es k=some v->VR S g sh.heap v y->Q (some y) {sh with toks:=tk}):wpAny S.M A (dictGet d key) Q Ex sh:=by
 unfold dictGet
 try with_reducible refine wpAny_holding ?_
 refine wpAny_bind (hU 8 hu hk qk λt zz=>?_);refine wpAny_bind (hY (sh:={sh with toks:=t}) (g:=g) hu hk qk ho rfl hes hn (λhm=>?_) (λj hj=>?_))
 .exact wpAny_pure (hnone (nT hk (jo hes) hm) t)
 .refine aa (PX.mp hj|>.elim λa b=>((ag (es[j]'(by simpa using a)) (by simp) (by simpa using b)):∃p,es[j]?=some p/\p.1=k)) λp hp1 hp2=>?_;refine wpAny_bind (wpAny_dictEntries (s:={sh with toks:=t}) ho rfl (wpAny_pure ?_));have hv:=uv hk (jo hes) hn hp1 hp2;obtain⟨y,hy1,hy2⟩:=hvs.get (i:=j) (v:=p.2) (by simp only[Qt,hp1];rfl);have:ds[j]?.map (·.val)=some y:=by rw[<-Qn,<-Qt];exact hy1
  refine this.symm▸?_;exact hsome p.2 y t hv hy2
theorem lX{l:Nat}{v:V}{y:Value}{Q:Unit->Shared->Prop}(hu:A.units+8<cLine)(r:aD S g s sh)(q:VR S g sh.heap (.ar l) (.ref d))(hl:s.get l=some (.dict es))(hz:es.length<100000)(hk:aA k=true)(qk:VR S g sh.heap k key)(qv:VR S g sh.heap v y)
  (hq:∀h' tk,P0 d sh.heap h'->aD S g (s.bU l (.dict (bD es k v))) {sh with heap:=h',toks:=tk}->aG S X g sh.heap g h'->Q () {sh with heap:=h',toks:=tk}):wpAny S.M A (dictSet d key y) Q Ex sh:=by
 refine qK (eO r q hl) λa ds nn e hgl ho hes hvs hn=>?_;obtain rfl:=Qq e;have hlen:es.length=ds.size:=by have:=hes.length;simpa using this
 have hep0:nn=ds.size:=by refine aa (r.bc l d hgl) λo z1 z2=>?_;rw[hl] at z1;obtain rfl:=PD z1;refine jA z2 λds2 n2 z3 _ _ _ z4=>?_;rw[ho] at z3;injection z3 with z3;cases z3;exact z4
 have dY:∀(f:Obj->Obj) (ds':Array DictEntry) (nn':Nat) tk,f {cls:=.type "dict",data:=.dict ds nn}={cls:=.type "dict",data:=.dict ds' nn'}->nn'=ds'.size->
   aC S g sh.heap ((bD es k v).map (·.1)) ds'.toList->aI S g sh.heap ((bD es k v).map (·.2)) (ds'.toList.map (·.val))->((bD es k v).map (·.1)).Nodup->Q () {sh with heap:=sh.heap.update d f,toks:=tk}:=by
  intro f ds' nn' tk hf hep h1 h2 h3;have sb:=Qo sh.heap d f;have hlive:∃o,(sh.heap.update d f).get? d=some o:=⟨_,QL f ho (congrArg _ hf)⟩;refine hq _ tk sb (r.bU hgl sb ?_) (aG.a9 r hgl sb hlive);have ex:=aG.a9 (X:=[]) r hgl sb hlive;refine jB ds' nn' ?_ (h1.ext ex) (h2.ext ex) h3 hep;have:=QL f ho (congrArg _ hf);rw[hf] at this;exact this
 unfold dictSet
 try with_reducible refine wpAny_holding ?_
 refine wpAny_bind (hU 8 hu hk qk λt _=>?_);unfold dictSetHashed
 try with_reducible refine wpAny_holding ?_
 refine wpAny_bind (hY (sh:={sh with toks:=t}) (g:=g) hu hk qk ho rfl hes hn (λhm=>?_) (λj hj=>?_))
 .refine wpAny_bind (wpAny_rule (wpAny_updateDictKeys (s:={sh with toks:=t}) ho rfl ?_ (hz:=by simp only[sizeLine_eq];exact r8 hlen hz) (hf:=by simp)));have e:=nU (v:=v) hk (jo hes) hm;refine dY _ (ds.push ⟨hV S.w k,key,y⟩) (nn+1) t rfl (by simp only[hep0,Array.size_push]) ?_ ?_ ?_
  .rw[e];simpa using hes.IY (k:=k) (e:=⟨hV S.w k,key,y⟩) rfl qk hk
  .rw[e];simpa using hvs.dZ (aI.fU qv)
  .rw[e];simp only[QZ,Qe,List.map_nil];exact List.nodup_append.mpr ⟨hn,by simp,λx hx y hy z=>by replace z:=z.trans (PI.mp hy);exact hm (z▸hx)⟩
 .refine aa (PX.mp hj|>.elim λa b=>((ag (es[j]'(by simpa using a)) (by simp) (by simpa using b)):∃p,es[j]?=some p/\p.1=k)) λp hp1 hp2=>?_;have e:=sz (v:=v) hk (jo hes) hn hp1 hp2;have hj':j<es.length:=(PX.mp hp1).1;refine wpAny_bind (wpAny_rule (wpAny_bind (wpAny_updateDict (s:={sh with toks:=t}) ho rfl (wpAny_point ?_) (hz:=by simp))));have hkeys:(bD es k v).map (·.1)=es.map (·.1):=by
   rw[e,List.map_set,hp2];refine List.ext_getElem? λi=>?_;refine(List.getElem?_set).trans ?_;split
   .rename_i hij;subst hij;refine(if_pos (by simpa using hj')).trans ?_;exact hj.symm
   .rfl
  refine dY _ (ds.modify j λe=> {e with val:=y}) nn t rfl (by refine hep0.trans ?_;simp) ?_ ?_ ?_
  .rw[hkeys];simpa using hes.A6 y j
  .have hv:(bD es k v).map (·.2)=(es.map (·.2)).set j v:=by simp only[e,List.map_set]
   rw[hv];have:(ds.modify j λe=> {e with val:=y}).toList.map (·.val)=(ds.toList.map (·.val)).set j y:=by
    refine List.ext_getElem? λi=>?_;simp only[List.getElem?_set,Qt,Qn,Array.getElem?_modify,Qt,Qn];by_cases hij:j=i
    .subst hij;have:j<ds.size:=by exact Gg hj' hlen
     simp[this]
    .simp[hij]
   simp only[this];exact hvs.set qv j
  .simp only[hkeys];exact hn
end
section
variable{hN:Bool}{n:Nat}{sc:Sc}{ctx:Ctx}{A:Around}{α β:Type}{V1:Gh->Heap->β->α->Prop}
theorem jD{l:Nat}{d:Addr}{es:List (V×V)}{k:V}{key:Value}{Q:Bool->Shared->Prop}{Ex:Ec}(hu:A.units+9<cLine)(r:aD S g s sh)(q:VR S g sh.heap (.ar l) (.ref d))(hl:s.get l=some (.dict es))(hk:aA k=true)(qk:VR S g sh.heap k key)
  (hq:∀tk,Q (aE es k).isSome {sh with toks:=tk}):wpAny S.M A (PySem.contains (.ref d) key) Q Ex sh:=by
 refine qK (eO r q hl) λa ds nn e hgl ho hes hvs hn=>?_;obtain rfl:=Qq e;have hT:sh.TypeIs (.ref d) "dict":=ag _ ho rfl;unfold PySem.contains
 try with_reducible refine wpAny_holding ?_
 refine wpAny_bind (wpAny_specialOf hT slot_dict_contains.lookup ?_);refine wpAny_bind (wpAny_callSpecialUnlessNone?_slot (name:=sj "__contains__") hT slot_dict_contains
  (wpAny_call_entry slot_dict_contains hT entry_dict_contains ?_ (args_dict_contains _ _)))
 refine(?_:wpAny _ _ (dictGet d key>>=_) _ _ sh);refine wpAny_bind (dR (A:=A.in1) (by omega) hk qk ho hes hvs hn (λhf tk=>?_) λv y tk hf qv=>?_)
 .replace hq:=hf▸hq;exact wpAny_bind (wpAny_pendingKey_other (ig r hgl) (wpAny_pure (ag _ rfl (wpAny_truthy_bool (hq tk)))))
 .rw[hf] at hq;exact wpAny_pure (ag _ rfl (wpAny_truthy_bool (hq tk)))
theorem sA{x c:Value}{Q:Ec}{Ex:Ec}(h:wpAny S.M A (PySem.contains c x) (λb s'=>Q (.bool b) s') Ex sh):wpAny S.M A (compareOp .In x c) Q Ex sh:=by exact wpAny_bind (wpAny_mono h (λb s' h'=>wpAny_pure h') λzz zz e=>e)
theorem mM{x c:Value}{Q:Ec}{Ex:Ec}(h:wpAny S.M A (PySem.contains c x) (λb s'=>Q (.bool (!b)) s') Ex sh):wpAny S.M A (compareOp .NotIn x c) Q Ex sh:=by exact wpAny_bind (wpAny_mono h (λb s' h'=>wpAny_pure h') λzz zz e=>e)
theorem ir(x:List Nat)(t:Tok):(strKind S.prog S.w).is (ak x) (.str (ak x) t)=true:=by refine(?_:(Value.str (ak x) t).isStr (ak x)=true);simp[Value.isStr]
set_option tactic.hygienic true in
theorem A7{a c:V}{x y:Value}{b:Bool}(hu:A.units+12<cLine)(r:aD S g s sh)(qa:VR S g sh.heap a x)(qc:VR S g sh.heap c y)(hb:H6 a c s=some b):
  (∀(Q:Ec) (Ex:Ec),(∀tk,Q (.bool b) {sh with toks:=tk})->wpAny S.M A (compareOp .In x y) Q Ex sh)/\
  (∀(Q:Ec) (Ex:Ec),(∀tk,Q (.bool (!b)) {sh with toks:=tk})->wpAny S.M A (compareOp .NotIn x y) Q Ex sh):=by
 cases c with
 |str p=>
  cases a<;>try (exact ns hb;done)
  rename_i z;obtain⟨t,rfl⟩:=qa.bG;refine PW qc.bG λu z1=>?_;refine z1▸?_;cases z with
  |nil=>exact ns hb|cons c z=>
   induction z with
   |cons _ _=>exact ns hb|nil=>
    refine(PD hb)▸?_;refine⟨λQ Ex k=>P.in_str ?_,λQ Ex k=>P.notIn_str ?_⟩
    .rw[yo];exact k sh.toks
    .rw[yo];exact k sh.toks
 |av vs=>
  refine aw qc.cG λl xs z2 ht qs=>?_;obtain rfl:=z2;refine nI (jC ((hb:contains a vs=some b))) λh1 h2 h3=>?_;refine dw (qP (A:=A) (sh:=sh) (Gd hu rfl) h1 h2 qa qs) λe1 e2=>?_;have:b=xs.any (λy=>@decide (VR S g sh.heap a y) (Classical.propDecidable _)):=by rw[QJ,h3,<-e2];simp
  refine⟨λQ Ex k=>SeqAt.in_tupleAt _ ht (λy hy=>e1 y (by simpa using hy)) ?_,λQ Ex k=>SeqAt.notIn_tupleAt _ ht (λy hy=>e1 y (by simpa using hy)) ?_⟩
  .rw[this] at k;exact k sh.toks
  .rw[this] at k;exact k sh.toks
 |ar l=>
  unfold H6 at hb;dsimp only at hb;split at hb
  .rename_i vs hvs;refine bK (cg r qc hvs) λla xs z2 _ I q1=>?_;refine z2▸?_;refine nI (jC hb) λh1 h2 h3=>?_;refine dw (qP (A:=A) (sh:=sh) (Gd hu rfl) h1 h2 qa q1) λe1 e2=>?_;have:b=xs.any (λy=>@decide (VR S g sh.heap a y) (Classical.propDecidable _)):=by
    rw[QJ,h3,<-e2];simp
   refine⟨λQ Ex k=>SeqAt.in_listAt _ I (λy hy=>e1 y (by simpa using hy)) ?_,λQ Ex k=>SeqAt.notIn_listAt _ I (λy hy=>e1 y (by simpa using hy)) ?_⟩
   .rw[this] at k;exact k sh.toks
   .rw[this] at k;exact k sh.toks
  .rename_i ss hss;cases a<;>try (exact ns hb;done)
   rename_i z;obtain⟨t,rfl⟩:=qa.bG;refine(PD hb)▸?_;refine aO (sv r qc hss) λd z1 _ hS=>?_;obtain rfl:=z1;have e:decide (∃y∈ss,ak y=ak z)=rV z ss:=by rw[QJ,decide_eq_true_iff,uu];exact⟨λhq0=>aa hq0 λy h1 h2=>gR h2▸h1,λh1=>ag z h1 rfl⟩
   refine⟨λQ Ex k=>wpAny_inSet_of (ir z t) rfl hS ?_,λQ Ex k=>wpAny_notInSet_of (ir z t) rfl hS ?_⟩
   .rw[e];exact k _
   .rw[e];exact k _
  .rename_i es hes;refine cy (aA a) (λz=>?_) λz=>?_
   .replace hb:=z▸hb;exact ns hb
   .rw[z] at hb;have:b=(aE es a).isSome:=by refine(PD hb)▸?_;cases aE es a<;>rfl
    refine fY (eO r qc hes) λd ds nn z3 _=>?_;obtain rfl:=z3;refine⟨λQ Ex k=>sA (jD (by omega) r qc hes z qa λtk=>?_),λQ Ex k=>mM (jD (by omega) r qc hes z qa λtk=>?_)⟩
    .refine this▸?_;exact k tk
    .refine this▸?_;exact k tk
  .exact ns hb
 |_=>exact ns hb
theorem A8{a c:V}{x y:Value}{b:Bool}(qa:VR S g sh.heap a x)(qc:VR S g sh.heap c y)(hb:Lf a c=some b):
  (∀(Q:Ec) (Ex:Ec),Q (.bool b) sh->wpAny S.M A (compareOp .Is x y) Q Ex sh)/\
  (∀(Q:Ec) (Ex:Ec),Q (.bool (!b)) sh->wpAny S.M A (compareOp .IsNot x y) Q Ex sh):=by
 cases c<;>try (exact ns hb;done)
 refine qc.el.symm▸?_;have dY:∀ {x:Value},plainIs x .none=true->(x==Rz)=b->(∀(Q:Ec) (Ex:Ec),Q (.bool b) sh->wpAny S.M A (compareOp .Is x .none) Q Ex sh)/\
  (∀(Q:Ec) (Ex:Ec),Q (.bool (!b)) sh->wpAny S.M A (compareOp .IsNot x .none) Q Ex sh):=by
  intro x h1 h2;refine⟨λQ Ex k=>wpAny_is_plain h1 ?_,λQ Ex k=>wpAny_isNot_plain h1 ?_⟩
  .refine h2.symm▸?_;exact k
  .exact h2▸k
 cases a with
 |none=>refine qa.el.symm▸?_;obtain rfl:=PD hb;exact dY rfl rfl
 |bool c=>rw[qa.nR];obtain rfl:=PD hb;exact dY rfl rfl
 |int i=>obtain⟨t,rfl⟩:=qa.aB;injection hb with hb;subst hb;exact dY rfl rfl
 |str i=>obtain⟨t,rfl⟩:=qa.bG;injection hb with hb;subst hb;exact dY rfl rfl
 |av vs=>obtain⟨l,xs,rfl,_⟩:=qa.cG;obtain rfl:=PD hb;exact dY rfl rfl
 |ar l=>obtain⟨a,_,rfl⟩:=qa;obtain rfl:=PD hb;exact dY rfl rfl
 |bc c d=>obtain⟨a,_,_,rfl,_⟩:=qa;obtain rfl:=PD hb;exact dY rfl rfl
 |_=>exact ns hb
set_option tactic.hygienic true in
theorem ki{a b:V}{r:Bool}(h:Im a b=some r):∃i j,a=.int i/\b=.int j/\r=decide (i<j):=by
 cases a<;>try (exact ns h;done)
 cases b<;>try (exact ns h;done)
 rename_i i j;refine(PD h)▸?_;refine bQ i j rfl rfl ?_;rw[QJ,de];simp
theorem yp{o:AH}{a c:V}{x y:Value}{b:Bool}(hu:A.units+64<cLine)(r:aD S g s sh)(qa:VR S g sh.heap a x)(qc:VR S g sh.heap c y)(hb:iF o a c s=some b):
  ∀(Q:Ec) (Ex:Ec),(∀tk,Q (.bool b) {sh with toks:=tk})->wpAny S.M A (compareOp (A3 o) x y) Q Ex sh:=by
 intro Q Ex k;induction o with
 |eq=>exact(ur hb r (by omega) qa qc).1 _ _ _ _ (k sh.toks)|ne=>obtain⟨c',h1,rfl⟩:=gW hb;rw[iq] at k;exact(ur h1 r (by omega) qa qc).2 _ _ _ _ (k sh.toks)
 |lt=>obtain⟨i,j,rfl,rfl,rfl⟩:=ki hb;obtain⟨t,rfl⟩:=qa.aB;obtain⟨u,rfl⟩:=qc.aB;exact P.lt_int (k sh.toks)
 |gt=>obtain⟨i,j,rfl,rfl,rfl⟩:=ki hb;obtain⟨t,rfl⟩:=qa.aB;obtain⟨u,rfl⟩:=qc.aB;exact P.gt_int (k sh.toks)
 |le=>
  obtain⟨c',h1,rfl⟩:=gW hb;obtain⟨i,j,rfl,rfl,rfl⟩:=ki h1;obtain⟨t,rfl⟩:=qa.aB;obtain⟨u,rfl⟩:=qc.aB;refine P.le_int ?_;have:decide (j<=i)=eA (decide (i<j)):=by rw[iq,QJ];simp
  rw[this];exact k sh.toks
 |ge=>
  obtain⟨c',h1,rfl⟩:=gW hb;obtain⟨i,j,rfl,rfl,rfl⟩:=ki h1;obtain⟨t,rfl⟩:=qa.aB;obtain⟨u,rfl⟩:=qc.aB;refine P.ge_int ?_;have:decide (i≥j)=eA (decide (i<j)):=by rw[iq,QJ];simp
  rw[this];exact k sh.toks
 |is=>exact(A8 qa qc hb).1 Q Ex (k sh.toks)|t9=>obtain⟨c',h1,rfl⟩:=gW hb;rw[iq] at k;exact(A8 qa qc h1).2 Q Ex (k sh.toks)
 |mF=>exact(A7 (by omega) r qa qc hb).1 Q Ex k|dA=>obtain⟨c',h1,rfl⟩:=gW hb;rw[iq] at k;exact(A7 (by omega) r qa qc h1).2 Q Ex k
theorem R.bind_assoc{α β γ:Type}(x:R α)(f:α->St->R β)(k:β->St->R γ):(x.bind f).bind k=x.bind λa s=>(f a s).bind k:=by induction x<;>rfl
theorem aD.congr{sh:Shared}(r:aD S g s sh)(hn:s'.n=s.n)(hg:∀i,s'.get i=s.get i):aD S g s' sh:=
 {r with
  len:=r.len.trans hn.symm
  bc:=λi a q=>by rw[hg];exact r.bc i a q
  so:=λi o q=>by simp only[hn];exact r.so i o (by rw[<-hg];exact q)}
noncomputable abbrev VB:Gh->Heap->Bool->Bool->Prop:=λzz zz b a=>a=b
theorem fc.of{c:Code V}{pe:PE}(hT:S.ip)(w:aF S hN n sc ctx c pe)(hp:∀env whole,PySem.isTrue pe env whole=(do let v<-whole;standAt pe.pos;holding [v] (truthy v))):fc S hN n sc ctx c pe:=λA g s sh lo env p=>by rw[hp];refine w.bind p λv s1 g1 sh1 x e1 p1 q=>?_;exact W.aT (W.dW (jn hT p1.r q))
theorem W.lY{t:Sem Bool}{f:Bool->Sem α}{w':Nat}{v:V}{k:Bool->St->R β}(w:W S X A VB t g sh (gN w' (aM v s) s))
  (c:∀b g1 sh1,aM v s=some b->aG S X g sh.heap g1 sh1.heap->aD S g1 s sh1->W S X A V1 (f b) g1 sh1 (k b s)):W S X A V1 (t>>=f) g sh ((gN w' (aM v s) s).bind k):=by
 refine W.bind w λb s1 g1 sh1 a e1 e2 r1 q=>?_;refine cJ (aM v s) (λz=>?_) λb' z=>?_
 .replace e1:=z▸e1;exact kW e1
 .replace e1:=z▸e1;cases e1;obtain rfl:a=b:=q;exact c a g1 sh1 z e2 r1
theorem W.LY{t:Sem Bool}{r:R Bool}{f:Bool->Value}{f':Bool->V}(hf:∀b g h,VR S g h (f' b) (f b))(w:W S X A VB t g sh r):W S X A (VR S) (t>>=λb=>P2 (f b)) g sh (r.bind λb s=>.ok (f' b) s):=
 W.bind w λb s1 g1 sh1 a zz zz r1 q=>by obtain rfl:a=b:=q;exact W.pure r1 (hf a _ _)
theorem IZ{a:Code V}{x:PE}{pos:Pos}(hT:S.ip)(w:aF S hN n sc ctx a x):aF S hN n sc ctx (e.not a) (.UnaryOp .Not x pos):=λA g s sh lo env p=>by refine(?_:W S [] A (VR S) (eval x env>>=λv=>standAt pos>>=λzz=>holding [v] (unaryOp .Not v)) g sh (((a ctx lo s).bind λv s=>gN 40 (aM v s) s).bind λb s=>.ok (.bool (eA b)) s));simp only[R.bind_assoc];refine w.bind p λv s1 g1 sh1 y e1 p1 q=>W.aT (W.dW ?_);refine(?_:W S [] A (VR S) (holding [y] (truthy y>>=λb=>P2 (Value.bool (!b)))) g1 sh1 _);refine W.dW (W.LY (λb g h=>?_) (jn hT p1.r q));rw[iq];rfl
theorem DN(a:Code V)(c:Ctx)(lo:Lo)(s:St):ea (e.not a) c lo s=(ea a c lo s).bind λb s=>.ok (eA b) s:=by refine(?_:((ea a c lo s).bind λb s=>R.ok (V.bool (eA b)) s).bind (λv s=>gN 40 (aM v s) s)=_);rw[R.bind_assoc];rfl
theorem I0{a:Code V}{x:PE}{pos:Pos}(w:fc S hN n sc ctx a x):fc S hN n sc ctx (e.not a) (.UnaryOp .Not x pos):=λA g s sh lo env p=>by simp only[DN];refine W.bind (w A g s sh lo env p) λb s1 g1 sh1 a zz zz r1 q=>?_;obtain rfl:a=b:=q;exact W.pure r1 (iq a).symm
theorem fc.bind{c:Code V}{pe:PE}{lo:Lo}{env:PM}{f:Bool->Sem α}{k:Bool->St->R β}(w:fc S hN n sc ctx c pe)(p:bX S hN n sc A g s sh lo env)
  (q:∀b s1 g1 sh1,aG S [] g sh.heap g1 sh1.heap->bX S hN n sc A g1 s1 sh1 lo env->W S [] A V1 (f b) g1 sh1 (k b s1)):W S [] A V1 (PySem.isTrue pe env (eval pe env)>>=f) g sh ((ea c ctx lo s).bind k):=
 W.bind (w A g s sh lo env p) λb s1 g1 sh1 a zz e r v=>by obtain rfl:a=b:=v;exact q a s1 g1 sh1 e (p.step e r)
theorem I3{t a b:Code V}{x y z:PE}{pos:Pos}(wt:fc S hN n sc ctx t x)(wa:aF S hN n sc ctx a y)(wb:aF S hN n sc ctx b z):aF S hN n sc ctx (e.ite t a b) (.IfExp x y z pos):=λA g s sh lo env p=>by
 refine wt.bind p λc s1 g1 sh1 e1 p1=>?_;induction c with
 |true=>exact wa A g1 s1 sh1 lo env p1|false=>exact wb A g1 s1 sh1 lo env p1
theorem I4{t a b:Code V}{x y z:PE}{pos:Pos}(wt:fc S hN n sc ctx t x)(wa:fc S hN n sc ctx a y)(wb:fc S hN n sc ctx b z):fc S hN n sc ctx (e.ite t a b) (.IfExp x y z pos):=λA g s sh lo env p=>by
 have:ea (e.ite t a b) ctx lo s=(ea t ctx lo s).bind λr s=>PS (ea b ctx lo s) (ea a ctx lo s) r:=by refine(?_:((ea t ctx lo s).bind λr s=>PS (b ctx lo s) (a ctx lo s) r).bind (λv s=>gN 40 (aM v s) s)=_);rw[R.bind_assoc];congr 1;funext r s;induction r<;>rfl
 simp only[this];refine wt.bind p λc s1 g1 sh1 e1 p1=>?_;induction c with
 |true=>exact wa A g1 s1 sh1 lo env p1|false=>exact wb A g1 s1 sh1 lo env p1
theorem I5{a:Code V}{x:PE}{pos:Pos}(w:aF S hN n sc ctx a x):aF S hN n sc ctx (e.neg a) (.UnaryOp .USub x pos):=λA g s sh lo env p=>by
 refine w.bind p λv s1 g1 sh1 y e1 p1 q=>W.aT (W.dW ?_);cases v<;>try trivial
 refine PW q.aB λt z1=>?_;exact z1▸W.bR p1.r λQ Ex k=>P.neg_int (k _ _ VR.mkInt)
theorem I6{o:AH}{a b:Code V}{l r:PE}{pos:Pos}(hm:behindInMarks (A3 o) r=false)(wa:aF S hN n sc ctx a l)(wb:aF S hN n sc ctx b r):aF S hN n sc ctx (e.cmp o a b) (.Compare l [A3 o] [r] pos):=λA g s sh lo env p=>by
 show W S [] A (VR S) (eval l env>>=λa=>holding [a] (markedBehindIn (A3 o) r (eval r env))>>=λb=>standAt pos>>=λzz=>operate [a,b] (compareOp (A3 o) a b)) g sh
  ((a ctx lo s).bind λa s=>(b ctx lo s).bind λb s=>match iF o a b s with|some r=>.ok (.bool r) s|.none=>.no 43)
 refine(markedBehindIn_of_false hm).symm▸?_;refine wa.bind p λva s1 g1 sh1 x e1 p1 qa=>?_;refine W.bind (W.dW (wb A g1 s1 sh1 lo env p1)) λvb s2 g2 sh2 y zz e2 r2 qb=>?_;refine W.aT (W.wA ?_);cases z:iF o va vb s2 with
 |none=>trivial|some c=>exact W.bR r2 λQ Ex k=>yp (by have:=p.a.units;exact ul this rfl) r2 (qa.ext e2) qb z Q Ex λtk=>k _ tk VR.AZ
theorem dI{o:AH}{a b:Code V}{l r:PE}{pos:Pos}(hm:behindInMarks (A3 o) r=false)(wa:aF S hN n sc ctx a l)(wb:aF S hN n sc ctx b r):fc S hN n sc ctx (e.cmp o a b) (.Compare l [A3 o] [r] pos):=λA g s sh lo env p=>by
 have:ea (e.cmp o a b) ctx lo s=(a ctx lo s).bind λa s=>(b ctx lo s).bind λb s=>match iF o a b s with|some r=>.ok r s|.none=>.no 43:=by refine(?_:((a ctx lo s).bind λa s=>(b ctx lo s).bind λb s=>match iF o a b s with|some r=>.ok (.bool r) s|.none=>.no 43).bind (λv s=>gN 40 (aM v s) s)=_);rw[R.bind_assoc];congr 1;funext va s;rw[R.bind_assoc];congr 1;funext vb s;cases iF o va vb s<;>rfl
 rw[this];refine(?_:W S [] A VB (eval l env>>=λa=>holding [a] (markedBehindIn (A3 o) r (eval r env))>>=λb=>standAt pos>>=λzz=>operate [a,b] (compareOp (A3 o) a b)>>=λc=>holding [c] (truthy c)) g sh _);refine(markedBehindIn_of_false hm).symm▸?_;refine wa.bind p λva s1 g1 sh1 x e1 p1 qa=>?_;refine W.bind (W.dW (wb A g1 s1 sh1 lo env p1)) λvb s2 g2 sh2 y zz e2 r2 qb=>?_;refine W.aT ?_;cases z:iF o va vb s2 with
 |none=>trivial|some c=>refine W.IX r2 rfl λQ Ex k=>wpAny_bind (wpAny_operate' (yp (by have:=p.a.units;exact ul this rfl) r2 (qa.ext e2) qb z _ _ λtk=>?_));exact wpAny_holding (wpAny_truthy_bool (k tk))
noncomputable def di:PE->Bool
 |.Starred _ _=>false|_=>true
inductive bM (S:SI) (hN:Bool) (n:Nat) (sc:Sc) (ctx:Ctx):List (Code V)->List PE->Prop
 |nil:bM S hN n sc ctx [] []|cons {c:Code V} {pe:PE} {cs:List (Code V)} {pes:List PE}:aF S hN n sc ctx c pe->fc S hN n sc ctx c pe->di pe=true->bM S hN n sc ctx cs pes->bM S hN n sc ctx (c::cs) (pe::pes)
theorem bM.length{cs:List (Code V)}{pes:List PE}(q:bM S hN n sc ctx cs pes):cs.length=pes.length:=by
 induction q with
 |nil=>rfl|cons _ _ _ _ ih=>simp[ih]
theorem eP{pe:PE}(h:di pe=true)(rest:List PE)(env:PM):starEach (pe::rest) env=(false,eval pe env)::starEach rest env:=by cases pe<;>first|rfl|exact ft h
theorem aY{cs:List (Code V)}{pes:List PE}(q:bM S hN n sc ctx cs pes)(pos:Pos)(env:PM):backTo pos (starEach pes env)=starEach pes env:=by
 induction q with
 |nil=>rfl|cons _ _ h _ ih=>rw[eP h];refine(?_:(false,eval _ env)::backTo pos (starEach _ env)=_);rw[ih]
noncomputable abbrev VL (S:SI):Gh->Heap->List V->List Value->Prop:=λg h b a=>aI S g h b a
theorem eQ{cs:List (Code V)}{pes:List PE}(q:bM S hN n sc ctx cs pes){lo:Lo}{env:PM}:∀ {g s sh},bX S hN n sc A g s sh lo env->W S [] A (VL S) (spliced (starEach pes env)) g sh (gO cs ctx lo s):=by
 induction q with
 |nil=>intro g s sh p;exact W.pure p.r aI.nil|@cons c pe cs pes w wt hs _ ih=>
  intro g s sh p;rw[eP hs];refine W.rule (t:=eval pe env>>=λv=>holding [v] (spliced (starEach pes env))>>=λr=>P2 (v::r)) ?_ λQ Ex k=>?_
  .refine w.bind p λv s1 g1 sh1 x e1 p1 q1=>?_;refine W.bind (W.dW (ih p1)) λvs s2 g2 sh2 xs zz e2 r2 q2=>?_;exact W.pure r2 (aI.cons (q1.ext e2) q2)
  .exact k
theorem R.bind_pure{α:Type}(x:R α):(x.bind λa s=>.ok a s)=x:=by induction x<;>rfl
set_option backward.match.sparseCases true in
theorem I7(hT:S.ip){pos:Pos}{cs:List (Code V)}{pes:List PE}(q:bM S hN n sc ctx cs pes):aF S hN n sc ctx (e.and cs) (.BoolOp .And pes pos):=by
 induction q with
 |nil=>intro A g s sh lo env p;trivial|@cons c pe cs pes w wt hs q ih=>
  intro A g s sh lo env p;induction q with
  |nil=>exact w A g s sh lo env p|@cons c2 pe2 cs pes w2 wt2 hs2 q=>
   show W S [] A (VR S) (eval pe env>>=λv=>standAt pos>>=λzz=>holding [v] (truthy v)>>=λt=>match BoolOp.And,t with|.And,false|.Or,true=>P2 v|_,_=>boolOp pos .And (evalEach (pe2::pes) env)) g sh
    ((c ctx lo s).bind λv s=>(gN 40 (aM v s) s).bind λb s=>PS (.ok v s) (e.and (c2::cs) ctx lo s) b)
   refine w.bind p λv s1 g1 sh1 y e1 p1 q1=>W.aT (W.lY (W.dW (jn hT p1.r q1)) λb g2 sh2 zz e2 r2=>?_);induction b with
   |false=>exact W.pure r2 (q1.ext e2)|true=>exact ih A g2 s1 sh2 lo env (p1.step e2 r2)
set_option backward.match.sparseCases true in
theorem LZ(hT:S.ip){pos:Pos}{cs:List (Code V)}{pes:List PE}(q:bM S hN n sc ctx cs pes):aF S hN n sc ctx (e.or cs) (.BoolOp .Or pes pos):=by
 induction q with
 |nil=>intro A g s sh lo env p;trivial|@cons c pe cs pes w wt hs q ih=>
  intro A g s sh lo env p;induction q with
  |nil=>exact w A g s sh lo env p|@cons c2 pe2 cs pes w2 wt2 hs2 q=>
   show W S [] A (VR S) (eval pe env>>=λv=>standAt pos>>=λzz=>holding [v] (truthy v)>>=λt=>match BoolOp.Or,t with|.And,false|.Or,true=>P2 v|_,_=>boolOp pos .Or (evalEach (pe2::pes) env)) g sh
    ((c ctx lo s).bind λv s=>(gN 40 (aM v s) s).bind λb s=>PS (e.or (c2::cs) ctx lo s) (.ok v s) b)
   refine w.bind p λv s1 g1 sh1 y e1 p1 q1=>W.aT (W.lY (W.dW (jn hT p1.r q1)) λb g2 sh2 zz e2 r2=>?_);induction b with
   |true=>exact W.pure r2 (q1.ext e2)|false=>exact ih A g2 s1 sh2 lo env (p1.step e2 r2)
theorem DO(c c2:Code V)(cs:List (Code V))(ctx:Ctx)(lo:Lo)(s:St):ea (e.and (c::c2::cs)) ctx lo s=(ea c ctx lo s).bind λb s=>PS (.ok false s) (ea (e.and (c2::cs)) ctx lo s) b:=by
 refine(?_:((c ctx lo s).bind λv s=>(gN 40 (aM v s) s).bind λb s=>PS (.ok v s) (e.and (c2::cs) ctx lo s) b).bind (λv s=>gN 40 (aM v s) s)=((c ctx lo s).bind λv s=>gN 40 (aM v s) s).bind _);simp only[R.bind_assoc,R.bind_assoc];congr 1;funext v s;cases z:aM v s with
 |none=>rfl|some b=>induction b with
  |false=>refine(?_:gN 40 (aM v s) s=_);exact congrArg _ z|true=>rfl
theorem Gs(c c2:Code V)(cs:List (Code V))(ctx:Ctx)(lo:Lo)(s:St):ea (e.or (c::c2::cs)) ctx lo s=(ea c ctx lo s).bind λb s=>PS (ea (e.or (c2::cs)) ctx lo s) (.ok true s) b:=by
 refine(?_:((c ctx lo s).bind λv s=>(gN 40 (aM v s) s).bind λb s=>PS (e.or (c2::cs) ctx lo s) (.ok v s) b).bind (λv s=>gN 40 (aM v s) s)=((c ctx lo s).bind λv s=>gN 40 (aM v s) s).bind _);simp only[R.bind_assoc,R.bind_assoc];congr 1;funext v s;cases z:aM v s with
 |none=>rfl|some b=>induction b with
  |true=>refine(?_:gN 40 (aM v s) s=_);exact congrArg _ z|false=>rfl
set_option backward.match.sparseCases true in
theorem I8{pos:Pos}{cs:List (Code V)}{pes:List PE}(q:bM S hN n sc ctx cs pes):fc S hN n sc ctx (e.and cs) (.BoolOp .And pes pos):=by
 induction q with
 |nil=>intro A g s sh lo env p;trivial|@cons c pe cs pes w wt hs q ih=>
  intro A g s sh lo env p;induction q with
  |nil=>
   refine(?_:W S [] A VB _ g sh (ea c ctx lo s));rw[<-R.bind_pure (ea c ctx lo s)];refine wt.bind p λb s1 g1 sh1 e1 p1=>?_;induction b with
   |false=>exact W.pure p1.r rfl|true=>exact W.pure p1.r rfl
  |@cons c2 pe2 cs pes w2 wt2 hs2 q=>
   rw[DO];refine wt.bind p λb s1 g1 sh1 e1 p1=>?_;induction b with
   |false=>exact W.pure p1.r rfl|true=>exact ih A g1 s1 sh1 lo env p1
set_option backward.match.sparseCases true in
theorem L0{pos:Pos}{cs:List (Code V)}{pes:List PE}(q:bM S hN n sc ctx cs pes):fc S hN n sc ctx (e.or cs) (.BoolOp .Or pes pos):=by
 induction q with
 |nil=>intro A g s sh lo env p;trivial|@cons c pe cs pes w wt hs q ih=>
  intro A g s sh lo env p;induction q with
  |nil=>
   refine(?_:W S [] A VB _ g sh (ea c ctx lo s));rw[<-R.bind_pure (ea c ctx lo s)];refine wt.bind p λb s1 g1 sh1 e1 p1=>?_;induction b with
   |false=>exact W.pure p1.r rfl|true=>exact W.pure p1.r rfl
  |@cons c2 pe2 cs pes w2 wt2 hs2 q=>
   rw[Gs];refine wt.bind p λb s1 g1 sh1 e1 p1=>?_;induction b with
   |true=>exact W.pure p1.r rfl|false=>exact ih A g1 s1 sh1 lo env p1
theorem yq{cs:List (Code V)}{lo:Lo}{s s1:St}{vs:List V}(hq:gO cs ctx lo s=.ok vs s1):vs.length=cs.length:=by
 induction cs generalizing s s1 vs with
 |nil=>injection hq with hq;subst hq;rfl|cons c cs ih=>
  change (c ctx lo s).bind (λv s=>(gO cs ctx lo s).bind λvs s=>.ok (v::vs) s)=_ at hq;cases z:c ctx lo s with
  |ez k s2=>replace hq:=z▸hq;exact Fl hq|no k=>replace hq:=z▸hq;exact kW hq|ok v s2=>
   rw[z] at hq;change (gO cs ctx lo s2).bind (λvs s=>.ok (v::vs) s)=_ at hq;cases z2:gO cs ctx lo s2 with
   |ez k s2=>replace hq:=z2▸hq;exact Fl hq|no k=>replace hq:=z2▸hq;exact kW hq|ok vs s2=>rw[z2] at hq;injection hq with hq;subst hq;rw[Q3,ih z2];rfl
theorem W.sD{t:Sem Value}{o:O}{ob:Obj}(r:aD S g s sh)(hf:ob.isFreed=false)(ho:OR S (g.add sh.heap.objs.size) (sh.heap.push ob) sh.heap.objs.size o)
  (rule:∀(Q:Ec) (Ex:Ec),Q (.ref sh.heap.objs.size) {sh with heap:=sh.heap.push ob}->wpAny S.M A t Q Ex sh):W S X A (VR S) t g sh (.ok (.ar s.n) (s.new o)):=
 W.alloc r hf ho λQ Ex k=>rule Q Ex (k sh.toks)
theorem A9{xs:List Value}{Q:Ec}{Ex:Ec}(hz:xs.length<=sizeLine)(h:Q (.ref sh.heap.objs.size) {sh with heap:=sh.heap.push {cls:=.type "list",data:=.seq xs.toArray}}):wpAny S.M A (newList xs) Q Ex sh:=
 wpAny_newObj_type h (by refine(?_:xs.toArray.size<=sizeLine);refine Q6.symm▸?_;exact hz)
theorem zI{xs:List Value}{Q:Ec}{Ex:Ec}(hz:xs.length<=sizeLine)(h:Q (.ref sh.heap.objs.size) {sh with heap:=sh.heap.push {cls:=.type "tuple",data:=.seq xs.toArray}}):wpAny S.M A (newTuple xs) Q Ex sh:=
 wpAny_newObj_type h (by refine(?_:xs.toArray.size<=sizeLine);refine Q6.symm▸?_;exact hz)
theorem W.newList{vs:List V}{xs:List Value}(r:aD S g s sh)(q:aI S g sh.heap vs xs)(hz:vs.length<=200000):W S X A (VR S) (PySem.newList xs) g sh (.ok (.ar s.n) (s.new (.list vs))):=
 W.sD r rfl (OR.newList q) λQ Ex k=>A9 (by simp only[<-q.length,sizeLine_eq];exact PN hz (by decide)) k
theorem W.newTuple{vs:List V}{xs:List Value}(r:aD S g s sh)(q:aI S g sh.heap vs xs)(hz:vs.length<=200000):W S X A (VR S) (PySem.newTuple xs) g sh (.ok (.av vs) s):=λQ Ex hq=>
 zI (by simp only[<-q.length,sizeLine_eq];exact LH hz) (hq g _ _ (aG.push _) (r.push (tk:=sh.toks) _) (by
  exact bQ _ xs.toArray rfl ⟨_,PQ _ rfl,rfl,0,rfl⟩ (by simpa using q.ext (aG.push (X:=[]) _))))
theorem Gu{pos:Pos}{cs:List (Code V)}{pes:List PE}(q:bM S hN n sc ctx cs pes)(hl:cs.length<=1000):aF S hN n sc ctx (e.list cs) (.List pes pos):=λA g s sh lo env p=>by refine(?_:W S [] A (VR S) (standAt pos>>=λzz=>spliced (backTo pos (starEach pes env))>>=λvs=>PySem.newList vs) g sh ((gO cs ctx lo s).bind λvs s=>.ok (.ar s.n) (s.new (.list vs))));rw[aY q];refine W.aT (W.bind (eQ q p) λvs s1 g1 sh1 xs he e1 r1 q1=>?_);exact W.newList r1 q1 (by have:=yq he;exact PN (Qa this) (PN hl (by decide)))
theorem I9{pos:Pos}{k:Nat}{cs:List (Code V)}{pes:List PE}(q:bM S hN n sc ctx cs pes)(hl:cs.length<=1000):aF S hN n sc ctx (e.av cs) (.Tuple pes k pos):=λA g s sh lo env p=>by refine(?_:W S [] A (VR S) (standAt pos>>=λzz=>spliced (backTo pos (starEach pes env))>>=λvs=>PySem.newTuple vs) g sh ((gO cs ctx lo s).bind λvs s=>.ok (.av vs) s));rw[aY q];refine W.aT (W.bind (eQ q p) λvs s1 g1 sh1 xs he e1 r1 q1=>?_);exact W.newTuple r1 q1 (by have:=yq he;omega)
theorem qQ(r:aD S g s sh):sh.heap.objs.size∉g.ar:=λm=>by obtain⟨i,hi⟩:=PR.mp m;refine aa (r.bc i _ hi) λo' zz h2=>?_;refine aa h2.get λob' h3 zz=>?_;exact absurd (Rk h3) (RP _)
noncomputable abbrev VP (S:SI):Gh->Heap->List (V×V)->List (Value×Value)->Prop:=λg h b a=>aI S g h (b.map (·.1)) (a.map (·.1))/\aI S g h (b.map (·.2)) (a.map (·.2))
theorem DP{ck:List (Code V)}{ke:List PE}{pos:Pos}{lo:Lo}{env:PM}(qk:bM S hN n sc ctx ck ke):∀ {cv ve},bM S hN n sc ctx cv ve->ck.length=cv.length->∀ {g s sh},bX S hN n sc A g s sh lo env->
  W S [] A (VP S) (evalPairs (pairTrees (ke.map some) ve env pos)) g sh (e.yd (j9 ck cv) ctx lo s):=by
 induction qk with
 |nil=>intro cv ve qv hl g s sh p;exact W.pure p.r ⟨aI.nil,aI.nil⟩
 |@cons c pe cs pes w wt hs q ih=>
  intro cv ve qv hl g s sh p;induction qv with
  |nil=>cases hl
  |@cons c2 pe2 Lq pes2 w2 wt2 hs2 q2=>
   show W S [] A (VP S) (eval pe env>>=λk=>holding [k] (eval pe2 env>>=λx=>standAt pos>>=λzz=>P2 x)>>=λv=>holding [k,v] (evalPairs (pairTrees (pes.map some) pes2 env pos))>>=λr=>P2 ((k,v)::r)) g sh
    ((c ctx lo s).bind λk s=>(c2 ctx lo s).bind λv s=>(e.yd (j9 cs Lq) ctx lo s).bind λr s=>.ok ((k,v)::r) s)
   refine w.bind p λk s1 g1 sh1 x e1 p1 q1=>?_;have hv:W S [] A (VR S) (eval pe2 env>>=λx=>standAt pos>>=λzz=>P2 x) g1 sh1 (c2 ctx lo s1):=by exact R.bind_pure (c2 ctx lo s1)▸w2.bind p1 λv s2 g2 sh2 y e2 p2 q2=>W.aT (W.pure p2.r q2)
   refine W.bind (W.dW hv) λv s2 g2 sh2 y zz e2 r2 q3=>?_;refine W.bind (W.dW (ih q2 (by simpa using hl) (p1.step e2 r2))) λks s3 g3 sh3 zs zz e3 r3 q4=>?_;exact W.pure r3 ⟨aI.cons ((q1.ext e2).ext e3) q4.1,aI.cons (q3.ext e3) q4.2⟩
theorem DQ(es:List (V×V)):e.Di [] es=some es:=rfl
theorem Ba(kv:V×V)(kvs es:List (V×V)):e.Di (kv::kvs) es=if aA kv.1=true then e.Di kvs (bD es kv.1 kv.2) else none:=by refine(?_:(PS none (e.Di kvs (bD es kv.1 kv.2)) (aA kv.1):Option (List (V×V)))=_);cases aA kv.1<;>rfl
theorem yr(k v:V)(es:List (V×V)):(bD es k v).length<=es.length+1:=by
 induction es with
 |nil=>exact P5 _|cons p es ih=>rw[lh];split<;>simp<;>omega
theorem sE{d:Addr}{l:Nat}{Q:PUnit->Shared->Prop}{Ex:Ec}(hu:A.units+8<cLine):∀ {kvs:List (V×V)} {xs:List (Value×Value)} {es es':List (V×V)} {s s':St} {sh:Shared},aD S g s sh->VR S g sh.heap (.ar l) (.ref d)->s.get l=some (.dict es)->VP S g sh.heap kvs xs->e.Di kvs es=some es'->
  es.length+kvs.length<100000->s'.n=s.n->(∀i,s'.get i=if i=l then some (.dict es') else s.get i)->(∀sh',aG S X g sh.heap g sh'.heap->aD S g s' sh'->Q PUnit.unit sh')->wpAny S.M A (storeAll d xs) Q Ex sh:=by
 intro kvs;induction kvs with
 |nil=>
  intro xs es es' s s' sh r q hl hp hm hz hn hg k;have:=hp.1.fj;have:xs=[]:=by simpa using this
  refine this▸?_;simp only[DQ] at hm;obtain rfl:=PD hm;refine wpAny_pure (k _ .refl (r.congr hn λi=>?_));rw[hg];split
  .rename_i e;exact e▸hl.symm
  .rfl
 |cons kv kvs ih=>
  intro xs es es' s s' sh r q hl hp hm hz hn hg k;induction xs with
  |nil=>obtain⟨_,_,e,_⟩:=hp.1.bI;cases e
  |cons x xs=>
   refine aw hp.1.bI λ_ _ e1 a1 a2=>?_;injection e1 with u v;subst u;subst v;refine aw hp.2.bI λ_ _ e2 b1 b2=>?_;injection e2 with u v;subst u;subst v;rw[Ba] at hm;by_cases hk:aA kv.1=true
   .replace hm:=(if_pos hk).symm.trans hm;simp only[Q3] at hz;unfold storeAll;rw[List.forIn_cons];refine wpAny_bind (wpAny_bind (lX (X:=X) hu r q hl (PY (Qz _ _) hz) hk a1 b1 λh' tk sb r' ex=>?_));refine wpAny_pure ?_;have dl:=yr kv.1 kv.2 es;refine ih (s:=s.bU l (.dict (bD es kv.1 kv.2))) (s':=s') r' (q.ext ex) (by rw[St.cF,if_pos rfl]) ⟨a2.ext ex,b2.ext ex⟩ hm (LR hz dl) hn (λi=>?_) λsh' ex' r''=>k sh' (ex.trans ex') r'';rw[hg,St.cF];by_cases e:i=l
    .rw[if_pos e,if_pos e]
    .rw[if_neg e,if_neg e,if_neg e]
   .rw[if_neg hk] at hm;exact ns hm
theorem DR{cs:List (Code V×Code V)}{lo:Lo}{s s1:St}{vs:List (V×V)}(hq:e.yd cs ctx lo s=.ok vs s1):vs.length=cs.length:=by
 induction cs generalizing s s1 vs with
 |nil=>injection hq with hq;subst hq;rfl|cons c cs ih=>
  change (c.1 ctx lo s).bind (λk s=>(c.2 ctx lo s).bind λv s=>(e.yd cs ctx lo s).bind λvs s=>.ok ((k,v)::vs) s)=_ at hq;cases z:c.1 ctx lo s with
  |ez k s2=>replace hq:=z▸hq;exact Fl hq|no k=>replace hq:=z▸hq;exact kW hq|ok v s2=>
   rw[z] at hq;change (c.2 ctx lo s2).bind (λv' s=>(e.yd cs ctx lo s).bind λvs s=>.ok ((v,v')::vs) s)=_ at hq;cases z2:c.2 ctx lo s2 with
   |ez k s2=>replace hq:=z2▸hq;exact Fl hq|no k=>replace hq:=z2▸hq;exact kW hq|ok v2 s2=>
    rw[z2] at hq;change (e.yd cs ctx lo s2).bind (λvs s=>.ok ((v,v2)::vs) s)=_ at hq;cases z3:e.yd cs ctx lo s2 with
    |ez k s2=>replace hq:=z3▸hq;exact Fl hq|no k=>replace hq:=z3▸hq;exact kW hq|ok vs s2=>rw[z3] at hq;injection hq with hq;subst hq;rw[Q3,ih z3];rfl
theorem Bb:∀(a b:List (Code V)),(j9 a b).length<=a.length:=λa=>by
 induction a with
 |nil=>exact λb=>P5 0|cons x a ih=>exact λb=>match b with|[]=>QX _|y::b=>QQ (ih b)
theorem Gw{ck cv:List (Code V)}{ke ve:List PE}{pos:Pos}(qk:bM S hN n sc ctx ck ke)(qv:bM S hN n sc ctx cv ve)(hl:ck.length=cv.length)(h0:ck≠[])(h15:ck.length<=15):
  aF S hN n sc ctx (e.dict (j9 ck cv)) (.Dict (ke.map some) ve pos):=λA g s sh lo env p=>by
 have lk:=qk.length;have lv:=qv.length;have hlow:=p.r.fresh (Qf (a:=sh.heap.objs.size) (P5 _));have hf:({cls:=.type "dict",data:=.dict #[]}:Obj).isFreed=false:=rfl;refine(?_:W S [] A (VR S) (eval (.Dict (ke.map some) ve pos) env) g sh ((e.yd (j9 ck cv) ctx lo s).bind λkvs s=>match e.Di kvs [] with
  |some es=>.ok (.ar s.n) (s.new (.dict es))|.none=>.no 44))
 have e0:aG S [] g sh.heap g (sh.heap.push {cls:=.type "dict",data:=.dict #[]}):=aG.push _;have w:=DP (A:=A) (pos:=pos) (env:=env) (lo:=lo) qk qv hl (p.step e0 (p.r.push (tk:=sh.toks) _));have hall:(ke.map some).all (·.isSome)=true:=by simp
 have hke:ke.map some≠[]:=by
  intro z;have:ke=[]:=by simpa using z
  rw[this] at lk;exact h0 (List.length_eq_zero_iff.mp lk)
 have hln:(ke.map some).length=ve.length:=by rw[P9];exact IM lk.symm hl lv
 have h15':(ke.map some).length<=15:=by rw[P9];exact O1 lk h15
 cases he:e.yd (j9 ck cv) ctx lo s with
 |no k=>trivial|ez k s1=>simp only[he] at w;exact λhh Q Ex hq=>wpAny_Dict_any hall hln hke h15' (w hh _ Ex λg' sh' x a b c=>hq g' sh' x (e0.trans a) b (c.sr λzz z=>e0.dG z))
 |ok kvs s1=>
  simp only[he] at w;refine(?_:W S [] A (VR S) _ g sh (match e.Di kvs [] with
   |some es=>.ok (.ar s1.n) (s1.new (.dict es))|.none=>.no 44))
  cases z:e.Di kvs [] with
  |none=>trivial|some es=>
   refine λQ Ex hq=>wpAny_Dict_any hall hln hke h15' (w _ Ex λg1 sh1 xs e1 r1 q1=>?_);have hnl:=qQ p.r;have hnl1:sh.heap.objs.size∉g1.ar:=λm=>by
    refine QK (e1.c7 _ m) (λy=>?_) λy=>?_
    .exact hnl y
    .rw[PQ _ hf] at y;exact sn y
   have hob:sh1.heap.get? sh.heap.objs.size=some {cls:=.type "dict",data:=.dict #[]}:=
    e1.keep _ _ (PQ _ hf) hnl (λm=>nomatch m) (fy p.r hlow) (by intro y;injection y with y;exact absurd y (by decide))
   have r2:aD S (g1.add sh.heap.objs.size) (s1.new (.dict [])) sh1:=r1.uj hnl1 hlow (jB (#[]) (0) hob .nil (by simpa using aI.nil) (by simp) rfl);have hl1:(g1.add sh.heap.objs.size).ar[s1.n]?=some sh.heap.objs.size:=Gh.gU r1 _;have hkl:=DR he;have hzl:=Bb ck cv;refine sE (X:=[]) (g:=g1.add sh.heap.objs.size) (s:=s1.new (.dict [])) (s':=s1.new (.dict es)) (l:=s1.n) (by have:=p.a.units;exact ul this rfl) r2 (ag _ hl1 rfl) (by rw[St.gk,if_pos rfl])
    ⟨aI.up (Up.uj g1 _ _) q1.1,aI.up (Up.uj g1 _ _) q1.2⟩ z (by simp;omega) rfl (λi=>by rw[St.gk,St.gk];split<;>simp_all) λsh2 mZ r3=>?_
   exact hq _ sh2 _ (((e0.trans e1).uj (Qf (P5 _))).trans mZ) r3 (by
    exact ag _ hl1 rfl)
theorem DS{pos:Pos}:aF S hN n sc ctx (e.dict []) (.Dict [] [] pos):=λA g s sh lo env p=>
 W.sD (t:=eval (.Dict [] [] pos) env) (o:=.dict []) p.r rfl (jB (#[]) (0) (PQ _ rfl) .nil (by simpa using aI.nil) (by simp) rfl) λQ Ex k=>wpAny_Dict_empty k
theorem cP(p:Nat×V)(l:List (Nat×V))(x:Nat):ao (p::l) x=if p.1=x then some p.2 else ao l x:=by
 refine(?_:(PS (ao l x) (some p.2) (P8 p.1 x):Option V)=_);by_cases e:p.1=x
 .rw[if_pos e,(cD _ _).mpr e]
 .rw[if_neg e,sd e]
theorem lj(hn:S.nm.Nodup){x y:Nat}(hx:x<S.nm.length)(hy:y<S.nm.length)(e:S.n x=S.n y):x=y:=by unfold SI.n at e;rw[PK hx,PK hy] at e;exact(List.getElem?_inj hx hn).mp (by simp only[PK hx,PK hy];simpa using e)
theorem cU.Ja{h:Heap}(hn:S.nm.Nodup){x:Nat}(hx:x<S.nm.length){fs:List (Nat×V)}{ds:List DictEntry}(q:cU S g h fs ds):
  (∀v:V,ao fs x=some v->∃e,ds.find? (·.key.isStr (S.n x))=some e/\VR S g h v e.val)/\(ao fs x=none->ds.find? (·.key.isStr (S.n x))=none)/\ds.any (·.refKey)=false:=by
 induction q with
 |nil=>exact j2 (λv e=>(ns e)) (λzz=>rfl) rfl|@cons y v e fs es t h1 h2 h3 _ ih=>
  rw[cP];have hk:e.key.isStr (S.n x)=decide (y=x):=by rw[h1];refine(?_:(S.n y==S.n x)=_);rw[QJ,beq_iff_eq,decide_eq_true_iff];exact⟨λz=>lj hn h2 hx z,λz=>(congrArg _ z)⟩
  have hr:e.refKey=false:=by unfold DictEntry.refKey;rw[h1]
  refine j2 (λv' hv=>?_) (λhv=>?_) (by simp only[List.any_cons,hr,ih.2.2];rfl)
  .rw[List.find?_cons,hk];by_cases z:y=x
   .rw[if_pos z] at hv;refine(PD hv)▸?_;rw[decide_eq_true z];exact ag e rfl h3
   .rw[if_neg z] at hv;refine(decide_eq_false z).symm▸?_;exact ih.1 v' hv
  .by_cases z:y=x
   .replace hv:=(if_pos z).symm.trans hv;exact sn hv
   .replace hv:=(if_neg z).symm.trans hv;simp only[List.find?_cons,hk,decide_eq_false z];exact ih.2.1 hv
noncomputable def yt (c:V) (v:Value):Bool:=match c,v with|.int j,.int i _=>i==j|_,_=>false
theorem uw{c:V}{v:Value}(h:yt c v=true):∃j t,c=.int j/\v=.int j t:=by
 cases c
 case int=>
  induction v
  case int=>exact⟨_,_,rfl,congrArg (λz=>Value.int z _) (eq_of_beq h)⟩
  all_goals exact ft h
 all_goals exact ft h
noncomputable def Jb (K:Frag) (cv:Option V) (o:Option Value):Bool:=(o.isNone&&cv.isNone)||dF (λv=>(specialIn K v "__get__"==some none)&&(handedIn v&&dF (λc=>yt c v) cv)) o
noncomputable def jq (K:Frag) (C:Addr) (name:Str) (cv:Option V):Bool:=
 dF (λcd=>cd.hasDict) (clsIn K C)&&(!copiedNames.contains name&&((findIn K (.ref C) "__getattribute__"==some (some (.builtin "object.__getattribute__")))&&dF (Jb K cv) (findIn K (.ref C) name)))
theorem ux{K:Frag}{cd:ClassData}{ob:Obj}{name:Str}{r:Option (Option Value)}(h:cd.hasDict=true)(hl:lookIn name ob=r):PySem.W.ownOf cd (some ob) name=r:=(if_pos h).trans hl
theorem uy{K:Frag}{C:Addr}{name:Str}{cv:Option V}{ob:Obj}{v:Value}(hc:jq K C name cv=true)(hl:lookIn name ob=some (some v)):findObj K C (some ob) name=some (.value v):=by
 refine aX (aj hc) λcd hcd h1=>?_;refine aX (ab (ab (ab hc))) λo hf h4=>?_;have ho:=ux (K:=K) h1 hl;unfold findObj;rw[hcd,QS,hf,QS];refine oe h4 (λh=>?_) λh=>?_
 .obtain rfl:=QY.mp (aj h);rw[QS,QS,ho];rfl
 .refine aX h λw e h=>?_;obtain rfl:=e;have e:=eq_of_beq (aj h);dsimp only;rw[e,QS,QS,ho];rfl
theorem uz{K:Frag}{C:Addr}{name:Str}{j:Int}{ob:Obj}(hc:jq K C name (some (.int j))=true)(hl:lookIn name ob=some none):∃t,findObj K C (some ob) name=some (.value (.int j t))/\handedIn (.int j t)=true:=by refine aX (aj hc) λcd hcd h1=>?_;refine aX (ab (ab (ab hc))) λo hf h4=>?_;have ho:=ux (K:=K) h1 hl;have h2:=iV (aj (ab hc));clear hc;refine oe h4 (λh=>ft (ab h)) λh=>?_;refine aX h λw e0 h5=>?_;clear h h4;refine a8 (uw (ab (ab h5):yt (.int j) w=true)) λi t e1 e2=>?_;have e:=eq_of_beq (aj h5);have h3:=aj (ab h5);rw[e2,<-V.int.inj e1] at h3 e e0;refine⟨t,?_,h3⟩;unfold findObj;rw[hcd,QS,hf,QS,e0];dsimp only;rw[e,QS,QS,ho,QS];dsimp only;rw[h2,h3];rfl
theorem nV{K:Frag}{C:Addr}{name:Str}{cv:Option V}(hc:jq K C name cv=true):findIn K (.ref C) "__getattribute__"=some (some (.builtin "object.__getattribute__")):=eq_of_beq (aj (ab (ab hc)))
noncomputable def SI.sH (S:SI) (P:G) (a:Nat):Prop:=a<S.nm.length/\∀(c:Nat) (ca:Addr),S.cls[c]?=some ca->∃cl:Cl,P.cls[c]?=some cl/\jq S.K ca (S.n a) (ao cl.fW a)=true
theorem zJ{v:V}{y:Value}(q:VR S g h v y):handedIn y=true:=by
 cases v<;>unfold VR at q
 .subst q;rfl
 .subst q;rfl
 .obtain⟨_,_,rfl⟩:=q;rfl
 .obtain⟨_,_,rfl⟩:=q;rfl
 .obtain⟨_,_,rfl,_⟩:=q;rfl
 .obtain⟨_,_,rfl⟩:=q;rfl
 .obtain⟨_,_,_,rfl,_⟩:=q;rfl
 .obtain⟨_,_,_,_,_,_,rfl,_⟩:=q;rfl
 .obtain⟨_,_,rfl,_⟩:=q;rfl
theorem uA{name:Str}{ds:Array DictEntry}{nn:Nat}{e:DictEntry}(hf:ds.toList.find? (·.key.isStr name)=some e):lookIn name {cls:=.type "dict",data:=.dict ds nn}=some (some e.val):=by unfold lookIn;dsimp only;rw[hf]
theorem lZ{name:Str}{ds:Array DictEntry}{nn:Nat}(hf:ds.toList.find? (·.key.isStr name)=none)(hr:ds.toList.any (·.refKey)=false):lookIn name {cls:=.type "dict",data:=.dict ds nn}=some none:=by unfold lookIn;dsimp only;refine hf.symm▸?_;dsimp only;refine hr.symm▸?_;rfl
theorem uB{K:Frag}{C:Addr}{name:Str}{c:V}(hc:jq K C name (some c)=true):∃j,c=.int j:=
 aX (ab (ab (ab hc))) λo zz h4=>oe h4 (λh=>ft (ab h)) λh=>aX h λw zz h5=>a8 (uw (ab (ab h5):yt c w=true)) λj t e zz=>⟨j,e⟩
set_option tactic.hygienic true in
theorem l4{P:G}{a:Nat}{o:V}{y:Value}(ha:S.sH P a)(r:aD S g s sh)(q:VR S g sh.heap o y):W S X A (VR S) (getAttr y (S.n a) true) g sh (eb P o a s):=by
 cases o<;>try trivial
 rename_i c d;refine(?_:W S X A (VR S) (getAttr y (S.n a) true) g sh (match s.get d with
  |some (.ns fs)=>match ao fs a with
   |some v=>.ok v s|.none=>match aZ P.cls c with
    |some cl=>gN 60 (ao cl.fW a) s|.none=>.no 61
  |_=>.no 62))
 split
 .rename_i fs hfs;refine uf (ik r q hfs) λx da ca ds nn z5 h1 h2 h3 h4 h5 I=>?_;refine z5▸?_;refine aa (ha.2 c ca h2) λcl k1 k2=>?_;refine nI (h5.Ja r.ok.nm ha.1) λf1 f2 f3=>?_;split
  .rename_i v hv;refine aa (f1 v hv) λe e1 e2=>?_;refine W.bR r λQ Ex k=>get_value (wD r) I (nV k2) (uy k2 (uA e1)) (zJ e2) (k _ _ e2)
  .rename_i hv;rw[bz,k1];dsimp only;cases z:ao cl.fW a with
   |none=>trivial|some v=>replace k2:=z▸k2;clear z k1 h2 h1 z5 hfs q ha;obtain⟨j,rfl⟩:=uB k2;obtain⟨t,t1,t2⟩:=uz k2 (lZ (f2 hv) f3);exact W.bR r λQ Ex k=>get_value (wD r) I (nV k2) t1 t2 (k _ _ VR.mkInt)
 .trivial
noncomputable def jP:PE->Bool
 |.Call .. =>false|_=>true
theorem jQ{pe:PE}(h:jP pe=true)(a:Str)(env:PM)(whole:Sem Value):attributeBase pe a env whole=whole:=by cases pe<;>first|rfl|exact ft h
theorem Gx{P:G}{a:Nat}{c:Code V}{pe:PE}{pos:Pos}{nm:Str}(hnm:nm=S.n a)(ha:S.sH P a)(hb:jP pe=true)(w:aF S hN n sc ctx c pe):aF S hN n sc ctx (e.ah P c a) (.Attribute pe nm pos):=λA g s sh lo env p=>by subst hnm;refine(?_:W S [] A (VR S) (attributeBase pe (S.n a) env (eval pe env)>>=λo=>standAt pos.atName>>=λzz=>holding [o] (getAttr o (S.n a) true)>>=λr=>letTemporaryGo pe o r>>=λzz=>P2 r) g sh ((c ctx lo s).bind λv s=>eb P v a s));rw[jQ hb];refine w.bind p λv s1 g1 sh1 y e1 p1 q1=>W.aT ?_;exact W.tail (W.dW (l4 ha p1.r q1))
theorem iZ(n:Nat)(i:Int):fh n i=seqIndex? i n:=by
 induction i with
 |ofNat k=>
  refine(?_:(match QT k n with|true=>some k|false=>.none)=(if(decide ((0:Int)<=if(k:Int)<0 then(k:Int)+n else(k:Int))&&decide ((if(k:Int)<0 then(k:Int)+n else(k:Int))<(n:Int)))=true then some (if(k:Int)<0 then(k:Int)+n else(k:Int)).toNat else none));rw[if_neg (Ru.mpr (QE k)),decide_eq_true (QE k),Bool.true_and];cases z:QT k n with
  |true=>exact(if_pos (decide_eq_true (Ro.mpr ((ek k n).mp z)))).symm|false=>exact(if_neg λh=>Qu (z.symm.trans ((ek k n).mpr (Ro.mp (of_decide_eq_true h))))).symm
 |negSucc k=>
  refine(?_:(match QT k n with|true=>some (n-1-k)|false=>.none)=(if(decide ((0:Int)<=if RR k<0 then RR k+n else RR k)&&decide ((if RR k<0 then RR k+n else RR k)<(n:Int)))=true then some (if RR k<0 then RR k+n else RR k).toNat else none));rw[if_pos (Int.negSucc_lt_zero k),Int.negSucc_add_ofNat,Int.subNatNat_eq_coe,Int.toNat_sub];have e:n-k.succ=n-1-k:=(congrArg (n- ·) (Nat.add_comm k 1)).trans (Nat.sub_sub n 1 k).symm;have l:(n:Int)-(k.succ:Int)<n:=Int.sub_lt_self _ (Ro.mpr (RK k));rw[decide_eq_true l,Bool.and_true];cases z:QT k n with
  |true=>exact(if_pos (decide_eq_true (Int.sub_nonneg_of_le (Int.ofNat_le.mpr ((ek k n).mp z))))).symm▸congrArg some e.symm|false=>exact(if_neg λh=>Qu (z.symm.trans ((ek k n).mpr (Int.ofNat_le.mp (Int.le_of_sub_nonneg (of_decide_eq_true h)))))).symm
theorem jO.of{S:SI}{g:Gh}{k:Nat}{e:Addr}(r:aD S g s sh)(q:Heap.NewExc sh.heap h' e (dh k)):jO S sh.heap g h' k (.ref e):=by
 refine aw q.there λob t h1 h2 h3=>?_;refine⟨e,ob,_,rfl,λm=>?_,?_,h1,h2,h3,rfl,⟨_,rfl⟩,q.new,λm=>(by obtain⟨_,z,_⟩:=r.bH e m;rw[q.new] at z;exact nomatch z)⟩
 .obtain⟨i,hi⟩:=PR.mp m;refine aa (r.bc i e hi) λo' zz h4=>?_;refine aa h4.get λob' h5 zz=>?_;rw[q.new] at h5;exact nomatch h5
 .cases z:S.h0.get? e with
  |none=>rfl|some o=>
   by_cases ht:e∈S.c9
   .refine a8 (r.fC e ht) λzz zz y zz=>?_;replace y:=q.new.symm.trans y;exact ns y
   .have:=r.base e o z ht;replace this:=q.new.symm.trans this;exact ns this
theorem W.Bc{t:Sem α}{k:Nat}(r:aD S g s sh)(rule:A.handled=none->∀(Q:α->Shared->Prop) (Ex:Ec),(∀h' tk e,Heap.NewExc sh.heap h' e (dh k)->Ex (.ref e) {sh with heap:=h',toks:=tk})->wpAny S.M A t Q Ex sh):
  W S X A V1 t g sh (.ez k s):=λhh Q Ex hq=>rule hh Q Ex λh' tk e q=>
 hq g {sh with heap:=h',toks:=tk} (.ref e) (aG.bq q.keeps) (r.bq q.keeps) (jO.of r q)
theorem i0{a:Addr}{xs:Array Value}(h:sh.heap.IsTuple a xs):IsTup sh.heap a xs:=h
theorem kj{t:Addr}{items:Array Value}{k:Int}{u:Tok}{Q:Ec}{Ex:Ec}(ht:IsTup sh.heap t items)(hA:A.handled=none)
  (hlo: -(2^63)<=k) (hhi:k<2^63) (hj:seqIndex? k items.size=none) (hE:∀h' tk e,Heap.NewExc sh.heap h' e "IndexError"->Ex (.ref e) {sh with heap:=h',toks:=tk}):wpAny S.M A (getItem (.ref t) (.int k u)) Q Ex sh:=by
 unfold getItem
 try with_reducible refine wpAny_holding ?_
 skip
 refine wpAny_bind (wpAny_sequenceKey ht.typeIs (by decide) ?_);refine wpAny_bind (wpAny_callSpecial?_slot (name:=sj "__getitem__") ht.typeIs slot_tuple_getitem
  (wpAny_call_entry slot_tuple_getitem ht.typeIs entry_tuple_getitem ?_ (args_tuple_getitem _ _)))
 refine(?_:wpAny _ _ (Builtin.Tuple.tupleItemsOf (.ref t)>>=_) _ _ sh);refine wpAny_bind (tupleItemsOf_ ht ?_);refine wpAny_bind (wpAny_typeOf (typeIs_int sh k u) ?_);refine wpAny_bind (wpAny_specialOf (T:="int") (typeIs_int sh k u) int_index ?_);refine wpAny_bind (wpAny_of_eq (a:=k) rfl ?_);rw[if_neg (by simp only[Bool.or_eq_true,decide_eq_true_eq];omega)];rw[hj,Option.bind_none]
 first
  |exact wpAny_bind (wpAny_rule (by exact_raiseError plainExc_IndexError hA hE))|exact wpAny_bind (wpAny_rule (wpAny_bind (by exact_raiseError plainExc_IndexError hA hE)))|exact wpAny_bind (wpAny_bind (wpAny_rule (by exact_raiseError plainExc_IndexError hA hE)))|exact wpAny_rule (by exact_raiseError plainExc_IndexError hA hE)
theorem negl{k n:Int}(h:k+n<0):k< -n:=by omega
theorem addn{k n:Int}(h:k<0):k+n<n:=by omega
theorem sI{k:Int}{n:Nat}(h:seqIndex? k n=none):k< -(n:Int)\/(n:Int)<=k:=by
 have key:∀j:Int,(if(decide (0<=j)&&decide (j<n))=true then some j.toNat else none)=none->¬(0<=j/\j<n):=λj h c=>
  sn ((if_pos (show(decide (0<=j)&&decide (j<(n:Int)))=true by rw[decide_eq_true c.1,decide_eq_true c.2];rfl)).symm.trans h)
 unfold seqIndex? at h;refine QN (λh0:k<0=>?_) λh0=>?_
 .rw[if_pos h0] at h;exact .inl (negl (Int.not_le.mp λz=>key _ h ⟨z,addn h0⟩))
 .rw[if_neg h0] at h;exact .inr (Ru.mp λz=>key _ h ⟨Ru.mp h0,z⟩)
theorem qe{k:Int}{m j:Nat}(h:seqIndex? k m=some j):(0<=k/\k.toNat=j)\/(k<0/\-(m:Int)<=k/\(k+m).toNat=j):=by
 unfold seqIndex? at h;by_cases h0:k<0
 .simp only[h0,if_true] at h;split at h
  .rename_i z;simp at z;injection h with h;subst h;right;exact⟨h0,by omega,rfl⟩
  .exact ns h
 .simp only[h0,if_false] at h;split at h
  .injection h with h;subst h;left;exact⟨by exact by simpa using h0,rfl⟩
  .exact ns h
theorem mO{l:Addr}{items:Array Value}{k:Int}{t:Tok}{j:Nat}{x:Value}{Q:Ec}{Ex:Ec}(hl:sh.heap.IsList l items)(hlo: -(2^63)<=k)(hhi:k<2^63)(hj:seqIndex? k items.size=some j)(hx:items[j]?=some x)(h:Q x sh):
  wpAny S.M A (getItem (.ref l) (.int k t)) Q Ex sh:=by
 rcases qe hj with⟨h1,h2⟩|⟨h1,h2,h3⟩
 .exact wpAny_getItem_list hl h1 hhi (by refine h2.symm▸?_;exact hx) h
 .exact wpAny_getItem_list_neg hl h1 h2 hlo (by refine h3.symm▸?_;exact hx) h
theorem kl{k:Int}(h:small k=true): -(2^63)<=k/\k<2^63:=by have:=(gV k).mp h;exact Gf this
theorem aI.Jc{vs:List V}{xs:Array Value}{j:Nat}{v:V}(q:aI S g h vs xs.toList)(e:vs[j]?=some v):∃x,xs[j]?=some x/\VR S g h v x:=by refine aa (q.get e) λx h1 h2=>?_;exact ag x (by simpa using h1) h2
theorem aI.dz{vs:List V}{xs:Array Value}(q:aI S g h vs xs.toList):vs.length=xs.size:=by have:=q.length;simpa using this
theorem sJ{l:Nat}{d:Addr}{es:List (V×V)}{k:V}{key:Value}(hu:A.units+9<cLine)(r:aD S g s sh)(q:VR S g sh.heap (.ar l) (.ref d))(hl:s.get l=some (.dict es))(hk:aA k=true)(qk:VR S g sh.heap k key):
  W S X A (VR S) (getItem (.ref d) key) g sh (match aE es k with|some v=>.ok v s|.none=>.ez 1 s):=by
 refine qK (eO r q hl) λa ds nn e hgl ho hes hvs hn=>?_;obtain rfl:=Qq e;have hT:sh.TypeIs (.ref d) "dict":=ag _ ho rfl;cases z:aE es k with
 |some v=>
  refine W.bR r λQ Ex kq=>?_;unfold getItem
  try with_reducible refine wpAny_holding ?_
  refine wpAny_bind (wpAny_sequenceKey hT (by decide) ?_);refine wpAny_bind (wpAny_callSpecial?_slot (name:=sj "__getitem__") hT slot_dict_getitem
   (wpAny_call_entry slot_dict_getitem hT entry_dict_getitem ?_ (args_dict_getitem _ _)))
  show wpAny _ _ (dictGet d key>>=_) _ _ sh;refine wpAny_bind (dR (A:=A.in1) (by show A.units+1+8<cLine;omega) hk qk ho hes hvs hn (λhf tk=>?_) λv' y tk hf qv=>?_)
  .cases z.symm.trans hf
  .replace hf:=z.symm.trans hf;obtain rfl:=PD hf;exact wpAny_pure (ag y rfl (wpAny_pure (kq y tk qv)))
 |none=>
  refine W.Bc r λhA Q Ex hE=>?_;unfold getItem
  try with_reducible refine wpAny_holding ?_
  refine wpAny_bind (wpAny_sequenceKey hT (by decide) ?_);refine wpAny_bind (wpAny_callSpecial?_slot (name:=sj "__getitem__") hT slot_dict_getitem
   (wpAny_call_entry slot_dict_getitem hT entry_dict_getitem ?_ (args_dict_getitem _ _)))
  show wpAny _ _ (dictGet d key>>=_) _ _ sh;refine wpAny_bind (dR (A:=A.in1) (by show A.units+1+8<cLine;omega) hk qk ho hes hvs hn (λhf tk=>?_) λv' y tk hf qv=>?_)
  .refine wpAny_bind (wpAny_missed_other (ig r hgl) ?_);refine wpAny_bind (wpAny_typeOf (s:={sh with toks:=tk}) hT ?_);exact wpAny_bind (wpAny_rule (wpAny_raise_newExc (A:=A.in1) plainExc_KeyError hA λh' e q=>hE h' tk e q))
  .rw[z] at hf;exact ns hf
set_option tactic.hygienic true in
theorem sL{a:Addr}{xs:Array Value}{vs:List V}{i:V}{y:Value}(r:aD S g s sh)(ht:sh.heap.IsTuple a xs)(q:aI S g sh.heap vs xs.toList)(qi:VR S g sh.heap i y):W S X A (VR S) (getItem (.ref a) y) g sh (cY vs i s):=by
 cases i<;>try trivial
 rename_i k;obtain⟨t,rfl⟩:=qi.aB;refine(?_:W S X A (VR S) _ g sh (match small k with
  |true=>match fh (len vs) k with
   |some n=>gN 3 (aZ vs n) s|.none=>.ez 2 s
  |false=>.no 4))
 cases hs:small k with
 |false=>trivial|true=>
  refine dw (kl hs) λs1 s2=>?_;have hl:=q.dz;dsimp only;rw[aJ];cases hi:fh vs.length k with
  |none=>rw[iZ,hl] at hi;exact W.Bc r λhA Q Ex hE=>kj ht hA s1 s2 hi hE
  |some j=>dsimp only;rw[bz];refine W.lW λv hv=>W.bR r λQ Ex kq=>?_;refine aa (q.Jc hv) λx hx qx=>?_;rw[iZ,hl] at hi;exact PyProof.Rows.getItem_tuple ht s1 s2 hi hx (kq x _ qx)
set_option tactic.hygienic true in
theorem uC{a:Addr}{xs:Array Value}{vs:List V}{i:V}{y:Value}(r:aD S g s sh)(ht:sh.heap.IsList a xs)(q:aI S g sh.heap vs xs.toList)(qi:VR S g sh.heap i y):W S X A (VR S) (getItem (.ref a) y) g sh (cY vs i s):=by
 cases i<;>try trivial
 rename_i k;obtain⟨t,rfl⟩:=qi.aB;refine(?_:W S X A (VR S) _ g sh (match small k with
  |true=>match fh (len vs) k with
   |some n=>gN 3 (aZ vs n) s|.none=>.ez 2 s
  |false=>.no 4))
 cases hs:small k with
 |false=>trivial|true=>
  refine dw (kl hs) λs1 s2=>?_;have hl:=q.dz;dsimp only;rw[aJ];cases hi:fh vs.length k with
  |none=>rw[iZ,hl] at hi;exact W.Bc r λhA Q Ex hE=>wpAny_getItem_list_out hA ht (sI hi) s1 s2 hE
  |some j=>dsimp only;rw[bz];refine W.lW λv hv=>W.bR r λQ Ex kq=>?_;refine aa (q.Jc hv) λx hx qx=>?_;rw[iZ,hl] at hi;exact mO ht s1 s2 hi hx (kq x _ qx)
set_option tactic.hygienic true in
theorem qf{o i:V}{x y:Value}(hu:A.units+9<cLine)(r:aD S g s sh)(qo:VR S g sh.heap o x)(qi:VR S g sh.heap i y):W S X A (VR S) (getItem x y) g sh (cN o i s):=by
 cases o<;>try trivial
 .rename_i p;obtain⟨t,rfl⟩:=qo.bG;cases i<;>try trivial
  rename_i k;obtain⟨u,rfl⟩:=qi.aB;refine(?_:W S X A (VR S) _ g sh (match small k with
   |true=>match fh (len p) k with
    |some n=>match aZ p n with
     |some c=>.ok (.str [c]) s|.none=>.no 1
    |.none=>.no 1
   |false=>.no 4))
  cases hs:small k with
  |false=>trivial|true=>
   refine dw (kl hs) λs1 s2=>?_;dsimp only;rw[aJ];cases hi:fh p.length k with
   |none=>trivial|some j=>
    dsimp only;rw[bz];cases hc:p[j]? with
    |none=>trivial|some c=>
     refine W.bR r λQ Ex kq=>P.getItem_str (c:=c) ?_ ?_ ?_
     .have h1:¬k< -(2^63:Int):=by omega
      have h2:¬k≥2^63:=by omega
      simp only[decide_eq_false h1,decide_eq_false h2];rfl
     .simp only[aR,<-iZ,hi,QS];simpa [ak] using hc
     .exact kq _ _ (VR.eE (x:=[c]))
 .rename_i vs;refine aw qo.cG λa xs z2 ht q=>?_;exact z2▸sL r ht q qi
 .rename_i l;refine(?_:W S X A (VR S) _ g sh (match s.get l with
   |some (.list vs)=>cY vs i s|some (.dict es)=>match aA i with
    |true=>match aE es i with
     |some v=>.ok v s|.none=>.ez 1 s
    |false=>.no 5
   |_=>.no 5))
  split
  .rename_i vs hvs;refine bK (cg r qo hvs) λa xs z2 h1 h2 q=>?_;exact z2▸uC r h2 q qi
  .rename_i es hes;refine fY (eO r qo hes) λa ds nn z3 _=>?_;obtain rfl:=z3;cases z:aA i with
   |false=>trivial|true=>exact sJ hu r qo hes z qi
  .trivial
theorem Jd{x:Value}{T id:String}{Q:Bool->Shared->Prop}{Ex:Ec}(hT:sh.TypeIs x T)(hl:typeLookup (.type T) "__getitem__"=pure (some (.builtin id)))(h:Q false sh):wpAny S.M A (getitemInPython x) Q Ex sh:=by
 refine(getitemInPython_of_ne hT.not_modules).symm▸?_;refine wpAny_bind (wpAny_specialOf hT hl ?_)
 first
  |exact wpAny_pure h|exact wpAny_bind (wpAny_pure h)
noncomputable def sM (s:St):V->Prop
 |.str _=>True|.av _=>True|.cX _=>True|.ar l=>(∃vs,s.get l=some (.list vs))\/∃es,s.get l=some (.dict es)|_=>False
theorem wH{o:V}{x:Value}{Q:Bool->Shared->Prop}{Ex:Ec}(r:aD S g s sh)(q:VR S g sh.heap o x)(hi:sM s o)(h:Q false sh):wpAny S.M A (getitemInPython x) Q Ex sh:=by
 cases o<;>try exact hi.elim
 .obtain⟨t,rfl⟩:=q.bG;exact Jd (typeIs_str sh _ t) F.slot_str_getitem.lookup h
 .refine aw q.cG λa xs z2 ht zz=>?_;exact z2▸Jd (i0 ht).typeIs slot_tuple_getitem.lookup h
 .rcases hi with⟨vs,hi⟩|⟨es,hi⟩
  .refine bK (cg r q hi) λa xs z2 zz zz0 zz=>?_;refine z2▸?_;refine aO zz0 λo h2 h3 zz=>?_;exact Jd (T:="list") (ag _ h2 h3) slot_list_getitem.lookup h
  .refine eD (eO r q hi) λa xs n z3 zz h2 zz=>?_;exact z3▸Jd (T:="dict") (ag _ h2 rfl) slot_dict_getitem.lookup h
 .unfold VR at q;refine bK q λa xs z2 hn zz0 zz=>?_;refine z2▸?_;obtain⟨o,h1,h2,m,h3⟩:=zz0;exact Jd (T:="list") (ag o (r.base a o h1 hn) h2) slot_list_getitem.lookup h
noncomputable def nW:PE->Bool
 |.Slice .. =>false|_=>true
theorem km{pe:PE}(h:nW pe=true)(o i:Value):subscripted pe false o i=operate [o,i] (getItem o i):=by cases pe<;>first|rfl|exact ft h
set_option tactic.hygienic true in
theorem uD{o i:V}(h:∀k,cN o i s≠ .no k):sM s o:=by
 cases o<;>try exact(h _ rfl).elim
 .trivial
 .trivial
 .rename_i l;refine cJ (s.get l) (λz=>?_) λo z=>?_
  .exact(h 5 (by refine(?_:(match s.get l with|some (.list vs)=>cY vs i s|some (.dict es)=>_|_=>.no 5)=_);rw[z])).elim
  .induction o with
   |list vs=>exact .inl ⟨vs,z⟩|dict es=>exact .inr ⟨es,z⟩|set ss=>exact(h 5 (by show(match s.get l with|some (.list vs)=>cY vs i s|some (.dict es)=>_|_=>.no 5)=_;rw[z])).elim|ns fs=>exact(h 5 (by show(match s.get l with|some (.list vs)=>cY vs i s|some (.dict es)=>_|_=>.no 5)=_;rw[z])).elim|view es d=>exact(h 5 (by refine(?_:(match s.get l with|some (.list vs)=>cY vs i s|some (.dict es)=>_|_=>.no 5)=_);rw[z])).elim|dq bs=>exact(h 5 (by show(match s.get l with|some (.list vs)=>cY vs i s|some (.dict es)=>_|_=>.no 5)=_;rw[z])).elim
theorem W.Fv{t:Sem α}{r:R β}(h:(∀k,r≠ .no k)->W S X A V1 t g sh r):W S X A V1 t g sh r:=by
 induction r with
 |no k=>trivial|ok b s'=>exact h λk=>(λzq=>False.elim (noConfusion_of_Nat Mp.R.ctorIdx zq))|ez k s'=>exact h λk=>(λzq=>False.elim (noConfusion_of_Nat Mp.R.ctorIdx zq))
theorem Je{a b:Code V}{x y:PE}{pos:Pos}(hp:nW y=true)(wa:aF S hN n sc ctx a x)(wb:aF S hN n sc ctx b y):aF S hN n sc ctx (e.az a b) (.Subscript x y pos):=λA g s sh lo env p=>by
 show W S [] A (VR S) (eval x env>>=λo=>holding [o] (eval y env)>>=λi=>standAt pos>>=λzz=>getitemInPython o>>=λb=>subscripted y b o i>>=λr=>letTemporaryGo x o r>>=λzz=>P2 r) g sh
  ((a ctx lo s).bind λo s=>(b ctx lo s).bind λi s=>cN o i s)
 refine wa.bind p λvo s1 g1 sh1 xo e1 p1 q1=>?_;refine W.bind (W.dW (wb A g1 s1 sh1 lo env p1)) λvi s2 g2 sh2 yi zz e2 r2 q2=>?_;refine W.aT (W.Fv λhno=>?_);refine W.rule (t:=operate [xo,yi] (getItem xo yi)>>=λr=>letTemporaryGo x xo r>>=λzz=>P2 r) (W.tail (W.wA (qf (by have:=p.a.units;exact ul this rfl) r2 (q1.ext e2) q2))) λQ Ex k=>?_;exact wpAny_bind (wH r2 (q1.ext e2) (uD hno) (by rw[km hp];exact k))
noncomputable def sl (l u st:Option Int) {α:Type} (xs:List α):List α:=
 (sliceRange (sliceBounds l u st xs.length).1 (sliceBounds l u st xs.length).2.1 (sliceBounds l u st xs.length).2.2).filterMap (xs[·]?)
theorem aI.picks{vs:List V}{xs:List Value}(q:aI S g h vs xs):∀is:List Nat,aI S g h (is.filterMap (vs[·]?)) (is.filterMap (xs[·]?))
 |[]=>aI.nil|i::is=>by
  rw[RM,RM];cases z:vs[i]? with
  |none=>refine(q.none z).symm▸?_;exact q.picks is|some v=>refine aa (q.get z) λx h1 h2=>?_;refine h1.symm▸?_;exact aI.cons h2 (q.picks is)
theorem aI.sl{vs:List V}{xs:List Value}(q:aI S g h vs xs)(l u st:Option Int):aI S g h (Mp.sl l u st vs) (Mp.sl l u st xs):=by unfold Mp.sl;refine q.length.symm▸?_;exact q.picks _
theorem iu{α:Type}(xs:List α)(a b:Nat)(hb:b<=xs.length):(sliceRange (a:Int) (b:Int) 1).filterMap (xs[·]?)=(xs.take b).drop a:=by
 unfold sliceRange;have h1:(1:Int)>0:=by exact by decide
 simp only[h1,if_true,Int.ediv_one];by_cases hab:(a:Int)<b
 .rw[if_pos hab];have e1:((b:Int)-a+1-1).toNat=b-a:=by exact by simp
  rw[e1];have e2:(λ(k:Nat)=>((a:Int)+1*(k:Int)).toNat)=λk=>a+k:=by funext k;omega
  simp only[e2,StrLaws.picks xs (b-a) a (DB hb hab),List.drop_take]
 .rw[if_neg hab];simp[List.drop_eq_nil_of_le,RS];omega
theorem Bd{α:Type}(xs:List α):(sliceRange ((xs.length:Int)-1) (-1) (-1)).filterMap (xs[·]?)=xs.reverse:=by
 unfold sliceRange;have h1:¬((-1:Int)>0):=by exact by decide
 dsimp only;have hc:(if(xs.length:Int)-1> -1 then((xs.length:Int)-1- -1- -1-1)/(- -1) else 0).toNat=xs.length:=by
  split
  .have:(- -1:Int)=1:=rfl
   skip;exact by simp
  .have:xs.length=0:=by omega
   refine this.symm▸?_;rfl
 refine hc.symm▸?_;refine List.ext_getElem? λi=>?_;have key:∀(n:Nat),n<=xs.length->((RA n).map λ(k:Nat)=>((xs.length:Int)-1+ -1*(k:Int)).toNat).filterMap (xs[·]?)=xs.reverse.take n:=by
  intro n;clear i hc h1;induction n with
  |zero=>intro _;simp|succ n ih=>
   intro hn;simp only[List.range_succ,QZ,List.filterMap_append,ih (Qg hn),List.take_add_one];congr 1;have e:((xs.length:Int)-1+ -1*(n:Int)).toNat=xs.length-1-n:=by omega
   simp only[Qe,List.map_nil,RM,List.filterMap_nil];simp only[e,List.getElem?_reverse (hn)];have:xs.length-1-n<xs.length:=by exact LN hn
   rw[PK this];rfl
 rw[key _ (P5 _),List.take_of_length_le (by simp)]
theorem nX(n:Nat)(i:Int):aV n i<=n:=by
 unfold aV;induction i with
 |ofNat k=>
  dsimp only;split
  .rename_i q;exact P4 q
  .exact P5 _
 |negSucc k=>dsimp only;exact LP
theorem eo(n:Nat)(i:Int):max 0 (min (if i<0 then i+n else i) (n:Int))=(aV n i:Int):=by
 induction i with
 |ofNat k=>
  refine(?_:max 0 (min (if(k:Int)<0 then(k:Int)+n else k) (n:Int))=_);rw[if_neg (Ru.mpr (QE k))];refine(?_:_=((match Nat.ble k n with|true=>k|false=>n:Nat):Int));cases z:Nat.ble k n with
  |true=>exact(congrArg (max 0) (Int.min_eq_left (Int.ofNat_le.mpr (P4 z)))).trans (Int.max_eq_right (QE k))|false=>exact(congrArg (max 0) (Int.min_eq_right (Int.ofNat_le.mpr (Qg (Nat.lt_of_not_le λq=>Qu (z.symm.trans (Nat.ble_eq_true_of_le q))))))).trans (Int.max_eq_right (QE n))
 |negSucc k=>rw[if_pos (Int.negSucc_lt_zero k),Int.negSucc_add_ofNat,Int.subNatNat_eq_coe,Int.min_eq_left (Int.sub_le_self _ (QE _)),Int.max_comm,<-Int.ofNat_toNat,Int.toNat_sub];exact congrArg Int.ofNat ((congrArg (n- ·) (Nat.add_comm k 1)).trans (Nat.sub_sub n 1 k).symm)
inductive fM:V->Option Int->Prop
 |none:fM .none none|int (i:Int):fM (.int i) (some i)
theorem yu{α:Type}(xs:List α):sl none none none xs=xs:=by refine(?_:(sliceRange (0:Int) (xs.length:Int) 1).filterMap (xs[·]?)=xs);simp only[show(0:Int)=((0:Nat):Int) from rfl,iu xs 0 xs.length (P5 _)];simp
theorem Fw{α:Type}(xs:List α)(a:Int):sl (some a) none none xs=xs.drop (aV xs.length a):=by refine(?_:(sliceRange (max 0 (min (if a<0 then a+xs.length else a) (xs.length:Int))) (xs.length:Int) 1).filterMap (xs[·]?)=_);simp only[eo,iu xs _ xs.length (P5 _)];simp
theorem Fx{α:Type}(xs:List α)(a:Int):sl none (some a) none xs=xs.take (aV xs.length a):=by refine(?_:(sliceRange (0:Int) (max 0 (min (if a<0 then a+xs.length else a) (xs.length:Int))) 1).filterMap (xs[·]?)=_);rw[eo,show(0:Int)=((0:Nat):Int) from rfl,iu xs 0 _ (nX _ _)];simp
theorem yv{α:Type}(xs:List α)(a b:Int):sl (some a) (some b) none xs=(xs.take (aV xs.length b)).drop (aV xs.length a):=by refine(?_:(sliceRange (max 0 (min (if a<0 then a+xs.length else a) (xs.length:Int))) (max 0 (min (if b<0 then b+xs.length else b) (xs.length:Int))) 1).filterMap (xs[·]?)=_);simp only[eo,eo,iu xs _ _ (nX _ _)]
theorem Gy{α:Type}(xs:List α):sl none none (some (-1)) xs=xs.reverse:=by exact Bd xs
noncomputable def L1 {α:Type} (xs:List α) (lo hi st:V) (r:List α):Prop:=∃l u t,fM lo l/\fM hi u/\fM st t/\(t=none\/t=some (-1))/\r=sl l u t xs
theorem L1.mk{α:Type}{xs r:List α}{lo hi st:V}{l u t}(h1:fM lo l)(h2:fM hi u)(h3:fM st t)(h4:t=none\/t=some (-1))(h5:r=sl l u t xs):L1 xs lo hi st r:=ug l u t h1 h2 h3 h4 h5
theorem wI{α:Type}(xs:List α)(lo hi st:V):OP (L1 xs lo hi st) (aW xs lo hi st):=by
 cases st with
 |none=>
  cases lo with
  |none=>
   cases hi with
   |none=>exact .mk .none .none .none (.inl rfl) (yu xs).symm|int b=>exact .mk .none (.int b) .none (.inl rfl) (by simp only[Fx,eN,aJ])|_=>trivial
  |int a=>
   cases hi with
   |none=>exact .mk (.int a) .none .none (.inl rfl) (by simp only[Fw,eh,aJ])|int b=>exact .mk (.int a) (.int b) .none (.inl rfl) (by simp only[yv,eN,eh,aJ])|_=>trivial
  |_=>trivial
 |int i=>
  refine(?_:OP _ (match kP i (-1) with
   |true=>match lo,hi with
    |.none,.none=>some (Fe xs)|_,_=>.none
   |false=>.none))
  cases z:kP i (-1) with
  |false=>trivial|true=>
   refine((ej i (-1)).mp z).symm▸?_;cases lo with
   |none=>
    cases hi with
    |none=>exact .mk .none .none (.int (-1)) (.inr rfl) (by simp only[Gy,nK])|_=>trivial
   |_=>trivial
 |_=>trivial
theorem fA{α:Type}{xs r:List α}{lo hi st:V}(hq:aW xs lo hi st=some r):∃l u t,fM lo l/\fM hi u/\fM st t/\(t=none\/t=some (-1))/\r=sl l u t xs:=(wI xs lo hi st).get hq
theorem fM.i4{v:V}{l:Option Int}{y:Value}(q:fM v l)(r:VR S g h v y):IsPart y l:=by
 induction q with
 |none=>refine r.el.symm▸?_;exact .none|int i=>obtain⟨t,rfl⟩:=r.aB;exact .int i t
theorem fM.part{v:V}{l:Option Int}{y:Value}(q:fM v l)(r:VR S g h v y):∃p:Option (Int×Tok),y=partValue p/\p.map (·.1)=l:=by
 induction q with
 |none=>refine r.el.symm▸?_;exact ag Option.none rfl rfl|int i=>obtain⟨t,rfl⟩:=r.aB;exact⟨some (i,t),rfl,rfl⟩
theorem sN(items:Array Value)(l u t:Option Int):slicePick items l u t=(sl l u t items.toList).toArray:=by unfold slicePick sl;congr 1;congr 1;funext i;exact(Qn).symm
noncomputable def i5 (n:Nat):Option Int->Nat
 |none=>0|some a=>aV n a
noncomputable def kn (n:Nat):Option Int->Nat
 |none=>n|some a=>aV n a
theorem Be{α:Type}(xs:List α)(l u:Option Int):sl l u none xs=(xs.take (kn xs.length u)).drop (i5 xs.length l):=by
 induction l with
 |none=>induction u with
  |none=>rw[yu];simp[i5,kn]|some b=>rw[Fx];simp[i5,kn]
 |some a=>induction u with
  |none=>rw[Fw];simp[i5,kn]|some b=>rw[yv];rfl
theorem yw(n:Nat)(u:Option Int):kn n u<=n:=by
 induction u with
 |none=>exact P5 _|some a=>exact nX n a
theorem yx(n:Nat)(a:Int):(if a<0 then max (a+(n:Int)) 0 else min a (n:Int))=(aV n a:Int):=by
 rw[<-eo];split
 .rename_i h;rw[Int.min_eq_left (Int.add_comm a n▸Int.add_le_of_le_sub_left (Int.sub_self (n:Int)▸Int.le_of_lt h)),Int.max_comm]
 .rename_i h;exact(Int.max_eq_right (Int.le_min.mpr ⟨Ru.mp h,QE n⟩)).symm
theorem zK(l u:Option Int)(n:Nat):Builtin.Slice.sliceAdjust l u 1 (n:Int)=((i5 n l:Int),(kn n u:Int)):=by
 unfold Builtin.Slice.sliceAdjust;have h1:¬((1:Int)<0):=by exact by decide
 simp only[h1,if_false];induction l with
 |none=>induction u with
  |none=>rfl|some b=>dsimp only;rw[yx];rfl
 |some a=>induction u with
  |none=>dsimp only;rw[yx];rfl|some b=>dsimp only;simp only[yx,yx];rfl
theorem zL(a b:Nat):R0 (a:Int) (b:Int) 1=b-a:=by
 unfold R0;refine(congrArg _ (if_pos (by decide))).trans ?_;by_cases h:(a:Int)<b
 .refine(congrArg _ (if_pos h)).trans ?_;rw[Int.ediv_one,Int.sub_add_cancel];exact Int.toNat_sub _ _
 .refine(congrArg _ (if_neg h)).trans ?_;exact(Q7 (Int.ofNat_le.mp (Ru.mp h))).symm
theorem iw{v:Value}{l:Option Int}{Q:Option Int->Shared->Prop}{Ex:Ec}(p:IsPart v l)(h:Q l sh):wpAny S.M A (Builtin.Slice.slicePartIndex v) Q Ex sh:=by
 induction p with
 |none=>exact slicePart_none h|int i t=>exact slicePart_int h
theorem ll{a:Addr}{vl vu vs:Value}{l u:Option Int}{n:Nat}{Q:Int×Int×Nat->Shared->Prop}{Ex:Ec}(hs:sh.heap.IsSliceOf a vl vu vs)(pl:IsPart vl l)(pu:IsPart vu u)(ps:IsPart vs none)
  (h:Q ((i5 n l:Int),1,kn n u-i5 n l) sh):wpAny S.M A (Builtin.Slice.sliceApplied (.ref a) (pure (n:Int))) Q Ex sh:=by
 refine aO (id hs) λos hos hcs hds=>?_;refine wpAny_bind (wpAny_bind (wpAny_field hos hds (x:=vl) rfl (wpAny_bind (wpAny_field hos hds (x:=vu) rfl (wpAny_bind (wpAny_field hos hds (x:=vs) rfl (wpAny_pure ?_)))))));refine wpAny_bind (iw ps ?_);refine wpAny_bind (iw pl (wpAny_bind (iw pu (wpAny_bind (wpAny_pure ?_)))));refine(?_:wpAny _ _ (match Builtin.Slice.sliceAdjust l u 1 (n:Int) with|(lo,hi)=>pure (lo,(1:Int),R0 lo hi 1)) _ _ sh);rw[zK];refine(?_:wpAny _ _ (pure ((i5 n l:Int),(1:Int),R0 (i5 n l:Int) (kn n u:Int) 1)) _ _ sh);rw[zL];exact wpAny_pure h
theorem Bf(xs:Array Value)(a b:Nat)(hb:b<=xs.size):((RA (b-a)).filterMap λ(k:Nat)=>xs[((a:Int)+(k:Int)*1).toNat]?).toArray=((xs.toList.take b).drop a).toArray:=by
 have e:(λ(k:Nat)=>xs[((a:Int)+(k:Int)*1).toNat]?)=λk=>xs.toList[a+k]?:=by funext k;have:((a:Int)+(k:Int)*1).toNat=a+k:=((Nat.add_assoc _ _ _).symm);simp only[this,Qn]
 refine e.symm▸?_;congr 1;by_cases hab:a<=b
 .have:=StrLaws.picks xs.toList (b-a) a (by simp only[QG];exact AO hb hab);rw[List.filterMap_map] at this;simp only[List.drop_take];exact this
 .have e1:b-a=0:=by exact LQ hab
  rw[e1];symm;simp[RS];omega
theorem jx{t a:Addr}{items:Array Value}{vl vu vs:Value}{l u:Option Int}{Q:Ec}{Ex:Ec}(ht:IsTup sh.heap t items)(hs:sh.heap.IsSliceOf a vl vu vs)(pl:IsPart vl l)(pu:IsPart vu u)(ps:IsPart vs none)
  (h1:sl l u none items.toList=items.toList->Q (.ref t) sh) (h2:Q (.ref sh.heap.objs.size) {sh with heap:=sh.heap.push {cls:=.type "tuple",data:=.seq (sl l u none items.toList).toArray}})
  (hsz:items.size<=sizeLine):wpAny S.M A (getItem (.ref t) (.ref a)) Q Ex sh:=by
 have hdrop:sizeOk (.seq (sl l u none items.toList).toArray):=by refine(?_:(sl l u none items.toList).toArray.size<=sizeLine);simp only[Q6,Be,Ra,RS,QG];exact PN (PN (Nat.sub_le _ _) (Nat.min_le_right _ _)) hsz
 refine aO (id hs) λos hos hcs hds=>?_;have hTs:sh.TypeIs (.ref a) "slice":=ag os hos hcs;unfold getItem
 try with_reducible refine wpAny_holding ?_
 refine wpAny_bind (wpAny_sequenceKey ht.typeIs (by decide) ?_);refine wpAny_bind (wpAny_callSpecial?_slot (name:=sj "__getitem__") ht.typeIs slot_tuple_getitem
  (wpAny_call_entry slot_tuple_getitem ht.typeIs entry_tuple_getitem ?_ (args_tuple_getitem _ _)))
 refine(?_:wpAny _ _ (Builtin.Tuple.tupleItemsOf (.ref t)>>=_) _ _ sh);refine wpAny_bind (tupleItemsOf_ ht ?_);refine wpAny_bind (wpAny_typeOf hTs ?_);refine wpAny_bind (ll (n:=items.size) hs pl pu ps ?_);have hpick:=Bf items (i5 items.size l) (kn items.size u) (yw _ _);have he:sl l u none items.toList=(items.toList.take (kn items.size u)).drop (i5 items.size l):=by simp only[Be,QG]
 rw[<-he] at hpick;refine(?_:wpAny _ _ (if((i5 items.size l:Int)==0&&(1:Int)==1&&(kn items.size u-i5 items.size l)==items.size)=true then _ else _) _ _ sh);clear hds hcs hos hsz ps pu pl hs;by_cases hw:((i5 items.size l:Int)==0&&(1:Int)==1&&(kn items.size u-i5 items.size l)==items.size)=true
 .simp only[if_pos hw];simp only[QP,beq_iff_eq] at hw;have e1:i5 items.size l=0:=by lia
  have e2:kn items.size u=items.size:=by omega
  have e3:sl l u none items.toList=items.toList:=by rw[he,e1,e2,List.drop_zero,List.take_of_length_le (by simp)]
  refine wpAny_bind (wpAny_bind (wpAny_typeOf ht.typeIs (wpAny_pure ?_)));exact wpAny_bind (wpAny_rule (wpAny_pure (ag _ rfl (wpAny_pure (h1 e3)))))
 .rw[if_neg hw,hpick]
  first
   |exact wpAny_bind (m:=R4 _) (wpAny_newObj_type (wpAny_pure (ag _ rfl (wpAny_pure h2))) hdrop)|exact wpAny_bind (m:=R4 _) (wpAny_newObj_type (wpAny_bind (wpAny_pure (wpAny_pure ⟨_,rfl,wpAny_pure h2⟩))) hdrop)|exact wpAny_bind (wpAny_bind (m:=R4 _) (wpAny_newObj_type (wpAny_pure (wpAny_pure ⟨_,rfl,wpAny_pure h2⟩)) hdrop))|exact wpAny_bind (wpAny_bind (m:=R4 _) (wpAny_newObj_type (wpAny_pure ⟨_,rfl,wpAny_pure h2⟩) hdrop))
theorem bp{α:Type}{l:List α}(h:aN (len l)=true):l.length<100000:=by have:=gw h;rwa[aJ] at this
theorem W.qR{a b:Addr}{xs:Array Value}{vs:List V}{vl vu vt:Value}{l u t:Option Int}(r:aD S g s sh)(hl:sh.heap.IsList a xs)(q:aI S g sh.heap vs xs.toList)(hs:sh.heap.IsSliceOf b vl vu vt)(pl:IsPart vl l)(pu:IsPart vu u)(pt:IsPart vt t)(h0:t≠some 0)(hz:vs.length<100000):
  W S X A (VR S) (getItem (.ref a) (.ref b)) g sh (.ok (.ar s.n) (s.new (.list (sl l u t vs)))):=
 W.sD (ob:={cls:=.type "list",data:=.seq (slicePick xs l u t)}) r rfl (by
  rw[sN];exact OR.newList (xs:=sl l u t xs.toList) (q.sl l u t)) λQ Ex k=>wpAny_getItem_list_slice hl hs pl pu pt h0 k (by simp only[<-q.dz,sizeLine_eq];exact Qg (PZ hz (by decide)))
theorem qS(l u:Option Int)(n:Nat):sliceBounds l u none n=((i5 n l:Int),(kn n u:Int),1):=by
 induction l with
 |none=>induction u with
  |none=>rfl|some b=>refine(?_:((0:Int),max 0 (min (if b<0 then b+(n:Int) else b) (n:Int)),(1:Int))=_);rw[eo];rfl
 |some a=>induction u with
  |none=>refine(?_:(max 0 (min (if a<0 then a+(n:Int) else a) (n:Int)),(n:Int),(1:Int))=_);rw[eo];rfl
  |some b=>refine(?_:(max 0 (min (if a<0 then a+(n:Int) else a) (n:Int)),max 0 (min (if b<0 then b+(n:Int) else b) (n:Int)),(1:Int))=_);simp only[eo,eo];rfl
theorem zM(a b:Nat):(sliceRange (a:Int) (b:Int) 1).length=b-a:=by
 unfold sliceRange;rw[P9,List.length_range];refine(congrArg _ (if_pos (by decide))).trans ?_;by_cases h:(a:Int)<b
 .refine(congrArg _ (if_pos h)).trans ?_;rw[Int.ediv_one,Int.add_sub_cancel];exact Int.toNat_sub _ _
 .refine(congrArg _ (if_neg h)).trans ?_;exact(Q7 (Int.ofNat_le.mp (Ru.mp h))).symm
theorem subw{a b n:Nat}(h:a-b=n)(h1:a<=n)(h0:n≠0):a=n/\b=0:=
 have e:a=n:=Nat.le_antisymm h1 (h▸Nat.sub_le a b)
 ⟨e,Nat.eq_zero_of_not_pos λz=>RP n (PY (Qa h.symm) (e▸Nat.sub_lt (Nat.pos_of_ne_zero (e▸h0)) z))⟩
theorem Bg{α:Type}{xs:List α}{l u:Option Int}(h:(sliceRange (sliceBounds l u none xs.length).1 (sliceBounds l u none xs.length).2.1 (sliceBounds l u none xs.length).2.2).length=xs.length):sl l u none xs=xs:=by
 rw[qS] at h;have h:=(zM _ _).symm.trans h;rw[Be];refine QN (λhn:xs.length=0=>?_) λhn=>?_
 .rw[List.length_eq_zero_iff.mp hn,List.take_nil,List.drop_nil]
 .refine dw (subw h (yw _ _) hn) λe1 e2=>?_;rw[e1,e2,List.take_length];rfl
theorem wJ{α:Type}(xs:List α)(lo hi st:V):OP (λr=>r.length<=xs.length) (aW xs lo hi st):=by
 cases st with
 |none=>
  cases lo with
  |none=>
   cases hi with
   |none=>exact P5 _|int b=>refine(?_:(take xs _).length<=_);rw[eN];exact(List.take_sublist _ _).length_le|_=>trivial
  |int a=>
   cases hi with
   |none=>refine(?_:(drop xs _).length<=_);rw[eh];exact(List.drop_sublist _ _).length_le|int b=>refine(?_:(drop (take xs _) _).length<=_);rw[eh,eN];exact((List.drop_sublist _ _).trans (List.take_sublist _ _)).length_le|_=>trivial
  |_=>trivial
 |int i=>
  refine(?_:OP _ (match kP i (-1) with
   |true=>match lo,hi with
    |.none,.none=>some (Fe xs)|_,_=>.none
   |false=>.none))
  cases kP i (-1) with
  |false=>trivial|true=>
   cases lo with
   |none=>
    cases hi with
    |none=>refine(?_:(Fe xs).length<=_);rw[nK];exact Qa Rh|_=>trivial
   |_=>trivial
 |_=>trivial
theorem uE{α:Type}{xs r:List α}{lo hi st:V}(hq:aW xs lo hi st=some r):r.length<=xs.length:=(wJ xs lo hi st).get hq
set_option tactic.hygienic true in
theorem qT{o lo hi st:V}{x:Value}{b:Addr}{vl vu vt:Value}(r:aD S g s sh)(qo:VR S g sh.heap o x)(hs:sh.heap.IsSliceOf b vl vu vt)(ql:VR S g sh.heap lo vl)(qu:VR S g sh.heap hi vu)(qt:VR S g sh.heap st vt):
  W S X A (VR S) (getItem x (.ref b)) g sh (cz o lo hi st s):=by
 have h0:∀ {t:Option Int},(t=none\/t=some (-1))->t≠some 0:=by intro t h e;rcases h with h|h<;>rw[h] at e<;>exact nomatch e
 cases o<;>try trivial
 .rename_i p;obtain⟨tk,rfl⟩:=qo.bG;refine(?_:W S X A (VR S) _ g sh (match aN (len p) with
   |true=>(match aW p lo hi st with|some r=>.ok (.str r) s|.none=>.no 7)|false=>.no 7))
  cases z:aN (len p) with
  |false=>trivial|true=>
   dsimp only;cases y:aW p lo hi st with
   |none=>trivial|some rr=>
    refine fZ (fA y) λl u t pl pu pt ht z7=>?_;obtain rfl:=z7;refine aa (pl.part ql) λbl z1 hl=>?_;obtain rfl:=z1;refine aa (pu.part qu) λbu z1 hu=>?_;obtain rfl:=z1;refine aa (pt.part qt) λbt z1 hbt=>?_;obtain rfl:=z1;refine W.bR r λQ Ex k=>wpAny_getItem_str_slice (l:=bl) (u:=bu) (st:=bt) hs (by refine hbt.symm▸?_;rcases ht with rfl|rfl<;>rfl) ?_;have hpk:((slicePicked (ak p) bl bu bt).filterMap ((ak p).cps[·]?))=sl l u t p:=by unfold slicePicked;simp only[hl,hu,hbt,aR];congr 1;funext i;simp[ak]
    unfold sliceMade;split
    .rename_i hw;rw[QP,beq_iff_eq,beq_iff_eq,hbt] at hw;have e:sl l u t p=p:=by
      refine hpk.symm.trans ?_;rcases ht with rfl|rfl
      .have h2:=hw.2;unfold slicePicked at h2;simp only[hl,hu,hbt,aR] at h2;refine hpk.trans ?_;exact Bg h2
      .exact absurd hw.1 (by decide)
     replace k:=e▸k;exact k _ sh.toks VR.eE
    .refine hpk.symm▸?_;refine⟨?_,k _ _ VR.eE⟩;refine(?_:(ak (sl l u t p)).length<=sizeLine);simp only[aR,sizeLine_eq];have:=bp z;have:=uE y;omega
 .rename_i vs;refine aw qo.cG λa xs z2 ht q=>?_;refine z2▸?_;unfold cz;dsimp only;cases z:aN (len vs) with
  |false=>trivial|true=>
   cases st<;>try trivial
   dsimp only;cases y:aW vs lo hi .none with
   |none=>trivial|some rr=>
    refine fZ (fA y) λl u t pl pu pt _ z7=>?_;refine z7▸?_;cases pt;have hz:=bp z;have hq:=q.sl l u none;refine λQ Ex k=>jx ht hs (pl.i4 ql) (pu.i4 qu) (by refine qt.el.symm▸?_;exact .none) (λe=>?_) ?_ (by simp only[<-q.dz,sizeLine_eq];exact II hz)
    .refine k g sh _ .refl r ?_;exact bQ a xs rfl ht (by simp only[e] at hq;exact hq)
    .refine k g _ _ (aG.push _) (r.push (tk:=sh.toks) _) ?_;exact bQ _ _ rfl ⟨_,PQ _ rfl,rfl,0,rfl⟩ (by simpa using hq.ext (aG.push (X:=[]) _))
 .rename_i l;refine(?_:W S X A (VR S) _ g sh (match s.get l with
   |some (.list vs)=>match aN (len vs) with
    |true=>(match aW vs lo hi st with
     |some r=>.ok (.ar s.n) (s.new (.list r))|.none=>.no 9)
    |false=>.no 9
   |_=>.no 10))
  split
  .rename_i vs hvs;cases z:aN (len vs) with
   |false=>trivial|true=>
    dsimp only;cases y:aW vs lo hi st with
    |none=>trivial|some rr=>refine fZ (fA y) λl' u t pl pu pt ht z7=>?_;refine z7▸?_;refine bK (cg r qo hvs) λa xs z2 h1 h2 q=>?_;exact z2▸W.qR r h2 q hs (pl.i4 ql) (pu.i4 qu) (pt.i4 qt) (h0 ht) (bp z)
  .trivial
 .rename_i vs;refine bK qo λa xs z2 hn hb q=>?_;obtain rfl:=z2;refine(?_:W S X A (VR S) _ g sh (match aN (len vs) with
   |true=>(match aW vs lo hi st with|some r=>.ok (.ar s.n) (s.new (.list r))|.none=>.no 9)|false=>.no 9))
  cases z:aN (len vs) with
  |false=>trivial|true=>
   dsimp only;cases y:aW vs lo hi st with
   |none=>trivial|some rr=>refine fZ (fA y) λl' u t pl pu pt ht z7=>?_;obtain rfl:=z7;obtain⟨o,h1,h2,m,h3⟩:=hb;exact W.qR r ⟨o,r.base a o h1 hn,h2,m,h3⟩ q hs (pl.i4 ql) (pu.i4 qu) (pt.i4 qt) (h0 ht) (bp z)
noncomputable def mU (S:SI) (hN:Bool) (n:Nat) (sc:Sc) (ctx:Ctx) (c:Code V) (oe:Option PE):Prop:=
 ∀A g s sh lo env,bX S hN n sc A g s sh lo env->W S [] A (VR S) (valueOrNone (evalOpt oe env)) g sh (c ctx lo s)
theorem wK:mU S hN n sc ctx e.none none:=λA g s sh lo env p=>W.pure p.r (by rfl)
theorem Bh{c:Code V}{pe:PE}(w:aF S hN n sc ctx c pe):mU S hN n sc ctx c (some pe):=λA g s sh lo env p=>w A g s sh lo env p
set_option tactic.hygienic true in
theorem qg{o lo hi st:V}(h:∀k,cz o lo hi st s≠ .no k):sM s o:=by
 cases o<;>try exact(h _ rfl).elim
 .trivial
 .trivial
 .rename_i l;refine cJ (s.get l) (λz=>?_) λo z=>?_
  .exact(h 10 (by unfold cz;dsimp only;rw[z])).elim
  .induction o with
   |list vs=>exact .inl ⟨vs,z⟩|dict es=>exact .inr ⟨es,z⟩|set ss=>exact(h 10 (by unfold cz;dsimp only;rw[z])).elim|ns fs=>exact(h 10 (by unfold cz;dsimp only;rw[z])).elim|view es d=>exact(h 10 (by unfold cz;dsimp only;rw[z])).elim|dq bs=>exact(h 10 (by unfold cz;dsimp only;rw[z])).elim
 .trivial
noncomputable def O4 (S:SI):Gh->Heap->V×V×V->Value->Prop:=λg h b a=>∃ad vl vu vt,a=.ref ad/\h.IsSliceOf ad vl vu vt/\VR S g h b.1 vl/\VR S g h b.2.1 vu/\VR S g h b.2.2 vt
theorem kr{cl cu ct:Code V}{l u t:Option PE}{p':Pos}{lo:Lo}{env:PM}(wl:mU S hN n sc ctx cl l)(wu:mU S hN n sc ctx cu u)(wt:mU S hN n sc ctx ct t)(p1:bX S hN n sc A g s sh lo env):
  W S [] A (O4 S) (eval (.Slice l u t p') env) g sh ((cl ctx lo s).bind λa s=>(cu ctx lo s).bind λb s=>(ct ctx lo s).bind λc s=>.ok (a,b,c) s):=by
 refine W.bind (wl A g s sh lo env p1) λva s2 g2 sh2 ya zz e2 r2 q2=>?_;have p2:=p1.step e2 r2;refine W.bind (W.dW (wu A g2 s2 sh2 lo env p2)) λvb s3 g3 sh3 yb zz e3 r3 q3=>?_;have p3:=p2.step e3 r3;refine W.bind (W.dW (wt A g3 s3 sh3 lo env p3)) λvc s4 g4 sh4 yc zz e4 r4 q4=>?_;have e5:aG S [] g4 sh4.heap g4 (sh4.heap.push {cls:=.type "slice",data:=.fields #[ya,yb,yc]}):=aG.push _;refine W.ok λQ Ex k=>wpAny_newObj_type (k g4 {sh4 with heap:=sh4.heap.push {cls:=.type "slice",data:=.fields #[ya,yb,yc]}} _ e5 (r4.push (tk:=sh4.toks) _) ?_);exact yg _ _ _ _ rfl (bk _ (PQ _ rfl) rfl rfl) (((q2.ext e3).ext e4).ext e5) ((q3.ext e4).ext e5) (q4.ext e5)
theorem DT{a cl cu ct:Code V}{x:PE}{l u t:Option PE}{pos p':Pos}(wa:aF S hN n sc ctx a x)(wl:mU S hN n sc ctx cl l)(wu:mU S hN n sc ctx cu u)(wt:mU S hN n sc ctx ct t):
  aF S hN n sc ctx (e.bN a cl cu ct) (.Subscript x (.Slice l u t p') pos):=λA g s sh lo env p=>by
 show W S [] A (VR S) (eval x env>>=λo=>holding [o] (eval (.Slice l u t p') env)>>=λi=>
   standAt pos>>=λzz=>getitemInPython o>>=λb=>subscripted (.Slice l u t p') b o i>>=λr=>letTemporaryGo x o r>>=λzz=>P2 r) g sh
  ((a ctx lo s).bind λo s=>(cl ctx lo s).bind λa s=>(cu ctx lo s).bind λb s=>(ct ctx lo s).bind λst s=>cz o a b st s)
 refine wa.bind p λvo s1 g1 sh1 xo e1 p1 q1=>?_;have:((cl ctx lo s1).bind λa s=>(cu ctx lo s).bind λb s=>(ct ctx lo s).bind λst s=>cz vo a b st s)=
   ((cl ctx lo s1).bind λa s=>(cu ctx lo s).bind λb s=>(ct ctx lo s).bind λc s=>.ok (a,b,c) s).bind λd s=>cz vo d.1 d.2.1 d.2.2 s:=by
  simp only[R.bind_assoc];congr 1
 simp only[this];refine W.bind (W.dW (kr wl wu wt p1)) λd s2 g2 sh2 yi zz e2 r2 q2=>?_;refine AL q2 λad vl vu vt z4 hs ql qu qt=>?_;clear q2 p1 e1 p wt wa;obtain rfl:=z4;have qo:=q1.ext e2;refine W.aT (W.Fv λhno=>?_);have hh:=qg hno;induction t with
 |none=>refine W.rule (t:=operate [.ref ad,xo] (getItem xo (.ref ad))>>=λr=>letTemporaryGo x xo r>>=λzz=>P2 r) ?_ λQ Ex k=>wpAny_bind (wH r2 qo hh k);exact W.tail (W.wA (qT r2 qo hs ql qu qt))
 |some t=>refine W.rule (t:=operate [xo,.ref ad] (getItem xo (.ref ad))>>=λr=>letTemporaryGo x xo r>>=λzz=>P2 r) ?_ λQ Ex k=>wpAny_bind (wH r2 qo hh k);exact W.tail (W.wA (qT r2 qo hs ql qu qt))
noncomputable def FX (env:PM):List Addr:=env.locals::env.cells.map (·.2)
structure gx (S:SI) (env:PM) (g:Gh) (h:Heap) (lo:Lo):Prop where
 e:iX S env g h
 l:um S env lo g h
theorem FunFrames.Gz{env:PM}(e:aG S (FX env) g sh.heap g' sh'.heap)(r:aD S g s sh)(r':aD S g' s' sh'){lo:Lo}(af:gx S env g' sh'.heap lo)(cl:∀c∈env.cells.map (·.2),∃v,sh'.heap.IsCell c v){l:List PM}:sh.heap.FunFrames S.h0 l->sh'.heap.FunFrames S.h0 l:=
 FunFrames.map λL o h3 h4 h5=>QN (λhl:L∈g.ar=>PW (PR.mp hl) λi hi=>aa (r'.bc i L (gf e.ar hi)) λo' zz ho'=>dQ ho'.get λob q1 zz zz q4=>⟨ob,q1,q4⟩)
  λhl=>QN (λhx:L∈FX env=>(PU.mp hx).elim (λz=>z▸aa af.l λm zz0 zz=>gQ zz0 λo' es ep q1 q2 zz=>⟨o',q1,λvs z=>nomatch q2.symm.trans z⟩) λhx=>a8 (cl L hx) λv o' q1 q2=>⟨o',q1,λvs z=>nomatch q2.symm.trans z⟩)
  λhx=>PW (e.c8 L o h4 hl hx (eW r h3)) λsl q=>⟨_,q,h5⟩
theorem gm.Gz{env:PM}(e:aG S (FX env) g sh.heap g' sh'.heap)(r:aD S g s sh){lo:Lo}(w:iX S env g sh.heap)(af:gx S env g' sh'.heap lo){l:List PM}(q:gm S sh.heap l):gm S sh'.heap l:=λen m L hL=>by
 obtain⟨h1,o,es,k,h2,h3,h4⟩:=q en m L hL;have hl:L∉g.ar:=λml=>by obtain⟨i,hi⟩:=PR.mp ml;refine aa (r.bc i L hi) λo' zz ho'=>?_;refine aa ho'.su λob q1 q2=>?_;rw[h2] at q1;injection q1 with q1;subst q1;exact q2 h3
 clear hL m;by_cases hx:L∈FX env
 .rcases PU.mp hx with rfl|hx
  .refine aa w.sq λo1 k1 k2=>?_;rw[h2] at k1;obtain rfl:=PD k1;refine aa af.e.sq λo2 k3 k4=>?_;refine aa af.l λmm zz0 zz=>?_;refine gQ zz0 λo' es' ep' q1 q2 zz=>?_;rw[q1] at k3;obtain rfl:=PD k3;exact⟨h1,_,es',ep',q1,by simp only[k4,<-k2,h3],q2⟩
  .obtain⟨_,_,v,o',q1,q2⟩:=w.cells L hx;rw[h2] at q1;obtain rfl:=PD q1;rw[h4] at q2;exact nomatch q2
 .obtain⟨sl,q'⟩:=e.c8 L o h2 hl hx (eW r h1);exact⟨h1,_,es,k,q',h3,h4⟩
theorem bX.l5{lo lo':Lo}{env:PM}(p:bX S hN n sc A g s sh lo env)(e:aG S (FX env) g sh.heap g' sh'.heap)(r':aD S g' s' sh')(af:gx S env g' sh'.heap lo'):bX S hN n sc A g' s' sh' lo' env:=by
 refine⟨⟨p.a.depth,p.a.units,p.a.hd,p.a.gd,?_⟩,p.gu,p.vW.up e.bH,λx c q m=>?_,p.sc,af.e,r',af.l⟩
 .refine aO p.a.fr λl h1 h2 h3=>?_;refine bk l h1 (FunFrames.Gz e p.r r' af (λc hc=>?_) h2) (gm.Gz e p.r p.e af h3);exact(af.e.cells c hc).2.2
 .refine QK (e.dO c m) (λz=>?_) λz=>?_
  .exact p.DM x c q z
  .obtain⟨_,_,v,o,h3,_⟩:=p.e.cells c (aQ q);rw[z] at h3;exact ns h3
inductive nY (S:SI) (g:Gh) (h:Heap):Flow->PySem.Flow->Prop
 |next:nY S g h .next .next|brk:nY S g h .brk .brk|cont:nY S g h .cont .cont|ret {v:V} {y:Value}:VR S g h v y->nY S g h (.ret v) (.ret y)
noncomputable def VS (S:SI) (env:PM):Gh->Heap->Flow×Lo->PySem.Flow->Prop:=λg h b a=>nY S g h b.1 a/\gx S env g h b.2
noncomputable def fe (S:SI) (hN:Bool) (n:Nat) (sc:Sc) (ctx:Ctx) (c:SC) (st:Stmt):Prop:=
 ∀A g s sh lo env,bX S hN n sc A g s sh lo env->W S (FX env) A (VS S env) (exec st env) g sh (c ctx lo s)
noncomputable def iM (S:SI) (hN:Bool) (n:Nat) (sc:Sc) (ctx:Ctx) (c:SC) (st:List Stmt):Prop:=
 ∀A g s sh lo env,bX S hN n sc A g s sh lo env->W S (FX env) A (VS S env) (execs st env) g sh (c ctx lo s)
noncomputable def iN (S:SI) (hN:Bool) (n:Nat) (sc:Sc) (ctx:Ctx) (c:SC) (st:Stmt):Prop:=
 ∀A g s sh lo env,bX S hN n sc A g s sh lo env->W S [] A (VS S env) (exec st env) g sh (c ctx lo s)
theorem iN.Dm{c:SC}{st:Stmt}(w:iN S hN n sc ctx c st):fe S hN n sc ctx c st:=λA g s sh lo env p=>(w A g s sh lo env p).nil
theorem bX.gX{lo:Lo}{env:PM}(p:bX S hN n sc A g s sh lo env):gx S env g sh.heap lo:=⟨p.e,p.l⟩
noncomputable def nZ (S:SI) (hN:Bool) (n:Nat) (sc:Sc) (ctx:Ctx) (t:TC) (pe:PE):Prop:=
 ∀A g s sh lo env v y,bX S hN n sc A g s sh lo env->VR S g sh.heap v y->W S (FX env) A (λg h lo' (_:Unit)=>gx S env g h lo') (assign pe env y) g sh (t v ctx lo s)
noncomputable def l7 (S:SI) (hN:Bool) (n:Nat) (sc:Sc) (ctx:Ctx) (t:TC) (pe:PE):Prop:=
 ∀A g s sh lo env v y,bX S hN n sc A g s sh lo env->VR S g sh.heap v y->W S [] A (λg h lo' (_:Unit)=>gx S env g h lo') (assign pe env y) g sh (t v ctx lo s)
theorem eX(lo:Lo)(x:Nat)(v:V)(z:Nat):ao (a9 lo x v) z=if z=x then some v else ao lo z:=by
 induction lo with
 |nil=>
  refine(?_:ao [(x,v)] z=_);rw[cP];by_cases e:z=x
  .rw[if_pos e,if_pos e.symm]
  .rw[if_neg e,if_neg (λq=>e q.symm)]
 |cons p lo ih=>
  refine(?_:ao (PS (p::a9 lo x v) ((x,v)::lo) (P8 p.1 x)) z=_);by_cases e:p.1=x
  .rw[(cD _ _).mpr e];rw[cP,cP];by_cases q:z=x
   .rw[if_pos q,if_pos q.symm]
   .rw[if_neg q,if_neg (λy=>q y.symm),if_neg (λy=>q (by rw[<-y,e]))]
  .rw[sd e];rw[cP,cP,ih];by_cases q:p.1=z
   .rw[if_pos q,if_pos q,if_neg (λy=>e (by rw[q,y]))]
   .rw[if_neg q,if_neg q]
theorem i6{env:PM}(w:iX S env g h){c:Addr}{v:Option Value}(hc:h.IsCell c v):c≠env.locals:=λe=>by refine aO w.here λo h1 zz h3=>?_;refine aa hc λo' h4 h5=>?_;rw[e,h1] at h4;obtain rfl:=PD h4;exact h3 _ h5
theorem gy{env:PM}{m:Str->Option Value}(q:h.Ns env.locals m):∃o,h.get? env.locals=some o/\¬sa o/\∀v,o.data≠ .cell v:=by refine gQ q λo es ep h1 h2 zz=>?_;refine bk o h1 ?_ (λv z=>by replace z:=h2.symm.trans z;cases z);rintro(⟨_,_,_,z⟩|z|⟨_,z⟩)<;>replace z:=h2.symm.trans z<;>cases z
theorem yy{env:PM}{lo:Lo}{x:Nat}{v:V}{y:Value}{tk:Nat}{m:Str->Option Value}(p:bX S hN n sc A g s sh lo env)(hx:x<S.nm.length)(hk:env.kindOf (S.n x)=some .local)(q:VR S g sh.heap v y)
  (hm:sh.heap.Ns env.locals m) (hv:∀z w,ao lo z=some w->uk S g sh.heap env m z w) (hn:h'.Ns env.locals (λz=>if z=S.n x then some y else m z)) (hs:P0 env.locals sh.heap h') (hcl:∀o,sh.heap.get? env.locals=some o->∃o',h'.get? env.locals=some o'/\o'.cls=o.cls):
  aG S (FX env) g sh.heap g h'/\aD S g s {sh with heap:=h',toks:=tk}/\gx S env g h' (a9 lo x v):=by
 refine gQ (id hn) λo es ep hn1 hn2 hn3=>?_;have hf:∀z∈[env.locals],z∉g.bH:=λz hz hz2=>by simp only[PI.mp hz] at hz2;exact kY (p.r.bH _ hz2) hm
 have hi:∀z∈[env.locals],∀o,sh.heap.get? z=some o->¬sa o:=λz hz o ho=>by replace ho:=(PI.mp hz)▸ho;refine aO p.e.here λo' h1 h2 zz=>?_;rw[ho] at h1;exact(PD h1)▸h2
 have hk':∀a o,sh.heap.get? a=some o->a∉[env.locals]->h'.get? a=some o:=λa o ho ha=>(hs.2 a λe=>ha (by simp only[e];exact Q9 _)).trans ho;have hz:∀z∈[env.locals],∀o,sh.heap.get? z=some o->∃o',h'.get? z=some o':=λz hz zz zz=>by rw[PI.mp hz];exact⟨o,hn1⟩
 have ex:aG S (FX env) g sh.heap g h':=aG.jw hz hk' hf hi λz m=>.inl (by simp only[PI.mp m];exact PJ);have cellK:∀ {c v},sh.heap.IsCell c v->h'.IsCell c v:=by rintro c v hc;refine aa (id hc) λo' h3 h4=>?_;exact ag o' (hk' c o' h3 (λe=>i6 p.e hc (PI.mp e))) h4
 refine⟨ex,p.r.jw hk' hf (λz m=>by rw[PI.mp m];exact p.e.qN) hi (λz m=>by rw[PI.mp m];exact p.e.jM),⟨p.e.kind,p.e.globals,p.e.builtins,gy hn,p.e.qN,p.e.jM,p.e.inj,(by
  refine aa p.e.sq λo1 k1 k2=>?_;refine aa (hcl o1 k1) λo2 k3 k4=>?_;exact ag o2 k3 (k4.trans k2)),λc hc=>?_⟩,_,hn,λz w hw=>?_⟩
 .obtain⟨h1,h2,v,h3⟩:=p.e.cells c hc;exact⟨h1,h2,v,cellK h3⟩
 .rw[eX] at hw;clear hn3 hn2 hn1 hn;by_cases e:z=x
  .subst e;replace hw:=(if_pos rfl).symm.trans hw;refine(PD hw)▸?_;refine⟨hx,?_⟩;refine hk.symm▸?_;exact ag y (if_pos rfl:(if S.n z=S.n z then some y else m (S.n z))=some y) (q.ext ex)
  .rw[if_neg e] at hw;refine dw (hv z w hw) λh1 h2=>?_;refine⟨h1,?_⟩;have hne:S.n z≠S.n x:=λq=>e (lj p.r.ok.nm h1 hx q);split at h2
   .refine aa h2 λu k1 k2=>?_;exact ag u (((if_neg hne:(if S.n z=S.n x then some y else m (S.n z))=m (S.n z))).trans k1) (k2.ext ex)
   .obtain⟨c,u,k1,k2,k3⟩:=h2;exact⟨c,u,k1,cellK k2,k3.ext ex⟩
   .obtain⟨c,u,k1,k2,k3⟩:=h2;exact⟨c,u,k1,cellK k2,k3.ext ex⟩
   .trivial
theorem GA{env:PM}{lo:Lo}{x:Nat}{v:V}{y:Value}{c:Addr}{tk:Nat}(p:bX S hN n sc A g s sh lo env)(hx:x<S.nm.length)(hk:env.kindOf (S.n x)=some .cell)(hc:env.cells.lookup (S.n x)=some c)(hfr:sc.lookup (S.n x)≠some .free)(q:VR S g sh.heap v y)
  (hn:h'.IsCell c (some y)) (hs:P0 c sh.heap h'):
  aG S (FX env) g sh.heap g h'/\aD S g s {sh with heap:=h',toks:=tk}/\gx S env g h' (a9 lo x v):=by
 refine aa (id hn) λon hn1 hn2=>?_;obtain⟨c1,c2,v0,c3⟩:=p.e.cells c (aQ hc);refine aa (id c3) λo0 c4 c5=>?_;have hnf:c∉g.bH:=λm=>hfr (p.DM _ c hc m);have hf:∀z∈[c],z∉g.bH:=λz hz=>by exact(PI.mp hz)▸hnf
 have hi:∀z∈[c],∀o,sh.heap.get? z=some o->¬sa o:=λz hz o ho=>by rw[PI.mp hz] at ho;rw[c4] at ho;refine(PD ho)▸?_;rintro(⟨_,_,_,z⟩|z|⟨_,z⟩)<;>replace z:=c5.symm.trans z<;>cases z
 have hk':∀a o,sh.heap.get? a=some o->a∉[c]->h'.get? a=some o:=λa o ho ha=>(hs.2 a λe=>ha (by simp only[e];exact Q9 _)).trans ho;have hz:∀z∈[c],∀o,sh.heap.get? z=some o->∃o',h'.get? z=some o':=λz hz zz zz=>by rw[PI.mp hz];exact⟨on,hn1⟩
 have ex:aG S (FX env) g sh.heap g h':=aG.jw hz hk' hf hi λz m=>.inl (by simp only[PI.mp m];exact PL _ (aQ hc));have cellK:∀ {c' v},c'≠c->sh.heap.IsCell c' v->h'.IsCell c' v:=by rintro c' v hne hh0;refine aa hh0 λo' h3 h4=>?_;exact ag o' (hk' c' o' h3 (λe=>hne (PI.mp e))) h4
 have hnl:c≠env.locals:=i6 p.e c3;refine aa p.l λm hm hv=>?_;have hm':h'.Ns env.locals m:=by refine fY hm λo es ep q1 q2=>?_;exact lU o es ep (hk' _ o q1 (λe=>hnl (PI.mp e).symm)) q2
 clear c5 c4 c3 hn2 hn1 hfr;refine⟨ex,p.r.jw hk' hf (λz m=>by refine(PI.mp m).symm▸?_;exact c1) hi (λz m=>by exact(PI.mp m)▸c2),⟨p.e.kind,p.e.globals,p.e.builtins,gy hm',p.e.qN,p.e.jM,p.e.inj,(by
  refine aa p.e.sq λo1 k1 k2=>?_;exact ag o1 (hk' _ o1 k1 (λe=>hnl (PI.mp e).symm)) k2),λc' hc'=>?_⟩,m,hm',λz w hw=>?_⟩
 .obtain⟨h1,h2,v,h3⟩:=p.e.cells c' hc';by_cases e:c'=c
  .refine e.symm▸?_;exact⟨c1,c2,_,hn⟩
  .exact⟨h1,h2,v,cellK e h3⟩
 .rw[eX] at hw;by_cases e:z=x
  .subst e;replace hw:=(if_pos rfl).symm.trans hw;obtain rfl:=PD hw;refine⟨hx,?_⟩;refine hk.symm▸?_;exact bQ c y hc hn (q.ext ex)
  .rw[if_neg e] at hw;refine dw (hv z w hw) λh1 h2=>?_;refine⟨h1,?_⟩;have hne:S.n z≠S.n x:=λq=>e (lj p.r.ok.nm h1 hx q);split at h2
   .refine aa h2 λu k1 k2=>?_;exact ag u k1 (k2.ext ex)
   .obtain⟨c',u,k1,k2,k3⟩:=h2;exact⟨c',u,k1,cellK (λq=>hne (p.e.inj _ _ c (q▸k1) hc)) k2,k3.ext ex⟩
   .obtain⟨c',u,k1,k2,k3⟩:=h2;exact⟨c',u,k1,cellK (λq=>hne (p.e.inj _ _ c (q▸k1) hc)) k2,k3.ext ex⟩
   .trivial
theorem n6{env:PM}{lo:Lo}{x:Nat}{v:V}{y:Value}(p:bX S hN n sc A g s sh lo env)(hx:x<S.nm.length)(hk:zF (sc.lookup (S.n x))=true)(q:VR S g sh.heap v y):
  W S (FX env) A (λg h lo' (_:Unit)=>gx S env g h lo') (bindName env (S.n x) y) g sh (.ok (a9 lo x v) s):=by
 refine dw ((p.sc (S.n x)).2.2 hk) λh1 h2=>?_;refine λQ Ex k=>wpAny_bindName ?_;refine cJ (sc.lookup (S.n x)) (λz=>?_) λkd z=>?_
 .rw[z] at hk;exact ft hk
 .rw[z] at hk h1;induction kd with
  |«local»=>refine aa p.l λm hm hv=>?_;refine eF h1 hm (λh' hn hs hcl=>?_) (by refine p.e.kind.symm▸?_;rfl);refine nI (yy (tk:=sh.toks+1) p hx h1 q hm hv hn hs hcl) λa1 a2 a3=>?_;exact k g _ () a1 a2 a3
  |cell=>obtain⟨c,hc⟩:=h2 h1;obtain⟨c1,c2,v0,c3⟩:=p.e.cells c (aQ hc);refine wpAny_storeName_cell p.e.kind h1 hc c3 λh' hn hs=>?_;obtain⟨a1,a2,a3⟩:=GA (tk:=sh.toks) p hx h1 hc (by refine z.symm▸?_;intro e;cases e) q hn hs;exact k g _ () a1 a2 a3
  |_=>exact ft hk
end
end
section
open PySem PySem.W PyProof.Rows PySem.SeqAt Builtin Builtin.ObjectAttr
open Sem (wp)
variable{S:SI}{g g' g'':Gh}{h h' h'':Heap}{X Y:List Addr}{s s':St}{sh sh':Shared}
section
variable{hN:Bool}{n:Nat}{sc:Sc}{ctx:Ctx}{A:Around}{α β:Type}{V1:Gh->Heap->β->α->Prop}
noncomputable def wL (K:Frag) (C:Addr) (name:Str):Bool:=
 plainOver K C&&(takerIn K C name==some none)&&(clsIn K C).any (·.hasDict)&&(findIn K (.ref C) "__setattr__"==some (some (.builtin "object.__setattr__")))
noncomputable def SI.uF (S:SI) (a:Nat):Prop:=a<S.nm.length/\∀(c:Nat) (ca:Addr),S.cls[c]?=some ca->wL S.K ca (S.n a)=true
theorem cU.bU(hn:S.nm.Nodup){x:Nat}(hx:x<S.nm.length){v:V}{y:Value}{hsh:Int}{tk:Tok}(q:VR S g h v y){fs:List (Nat×V)}{ds:List DictEntry}(f:cU S g h fs ds):
  cU S g h (a9 fs x v) (match ds.findIdx? (·.key.isStr (S.n x)) with|some i=>ds.modify i λe=> {e with val:=y}|none=>ds++[⟨hsh,.str (S.n x) tk,y⟩]):=by
 induction f with
 |nil=>exact .cons rfl hx q .nil|@cons z w e fs es t h1 h2 h3 _ ih=>
  have hk:e.key.isStr (S.n x)=decide (z=x):=by rw[h1];refine(?_:(S.n z==S.n x)=_);rw[QJ,beq_iff_eq,decide_eq_true_iff];exact⟨λq=>lj hn h2 hx q,λq=>(congrArg _ q)⟩
  refine(?_:cU S g h (PS ((z,w)::a9 fs x v) ((x,v)::fs) (P8 z x)) _);rw[List.findIdx?_cons,hk];by_cases e':z=x
  .refine e'▸?_;rw[(cD _ _).mpr rfl,decide_eq_true rfl];exact .cons h1 h2 q ‹_›
  .simp only[sd e',decide_eq_false e'];cases hi:es.findIdx? (·.key.isStr (S.n x)) with
   |some i=>rw[hi] at ih;exact .cons h1 h2 h3 ih
   |none=>replace ih:=hi▸ih;exact .cons h1 h2 h3 ih
theorem sO{c d a:Nat}{v:V}{x y:Value}{fs:List (Nat×V)}{Q:Unit->Shared->Prop}{Ex:Ec}(ha:S.uF a)(r:aD S g s sh)(qo:VR S g sh.heap (.bc c d) x)(hd:s.get d=some (.ns fs))(hz:fs.length<100000)(qv:VR S g sh.heap v y)
  (k:∀h' tk,aG S X g sh.heap g h'->aD S g (s.bU d (.ns (a9 fs a v))) {sh with heap:=h',toks:=tk}->Q () {sh with heap:=h',toks:=tk}):wpAny S.M A (setAttr x (S.n a) y) Q Ex sh:=by
 refine uf (ik r qo hd) λxa da ca ds nn z5 h1 h2 h3 h4 h5 I=>?_;refine z5▸?_;have hc:=ha.2 c ca h2;unfold wL at hc;simp only[QP,beq_iff_eq] at hc;refine dw hc λzz1 c4=>?_;refine dw zz1 λzz0 c3=>?_;refine dw zz0 λc1 c2=>?_;have XK:=wD r;refine set_plain XK I c4 ?_;refine osa_open (s:={sh with toks:=sh.toks+1}) XK I c1 c2 λb=>?_;refine aa (any_some c3) λcd hcd hd'=>?_;refine nI (h5.Ja r.ok.nm ha.1) λf1 f2 f3=>?_;have hlen:fs.length=ds.size:=by
  have:∀ {fs:List (Nat×V)} {ds:List DictEntry},cU S g sh.heap fs ds->fs.length=ds.length:=by
   intro fs ds q;induction q with
   |nil=>rfl|cons _ _ _ _ ih=>simp[ih]
  have:=this h5;simpa using this
 refine wpAny_bind (wpAny_pure (wpAny_bind (wpAny_bind (wpAny_loadPart h3 (wpAny_bind (looks_clsIn XK hcd _ _ _ _ (λzz zz e=>e) ?_))))));refine hd'.symm▸?_;refine wpAny_pure (a:=some da) (wpAny_bind (wpAny_pure (wpAny_bind ?_)));refine wpAny_bind (wpAny_bind (wpAny_askSetting (wpAny_pure (wpAny_bind (wpAny_mkText (wpAny_bind (wpAny_loadPart h4 ?_)))))));have c:(!ds.any (·.key.isStr (S.n a))&&ds.any (·.refKey))=false:=by have z:=f3;rw[Array.any_toList] at z;simp only[z,Bool.and_false]
 dsimp only;rw[aRefKeyMayBeTheName_at,c];refine wpAny_updatePart h4 ?_;have bU:∀hsh tk,Obj.putName (S.n a) hsh (.str (S.n a) tk) y {cls:=.type "dict",data:=.dict ds nn}=
   (match ds.findIdx? (·.key.isStr (S.n a)) with|some i=>({cls:=.type "dict",data:=.dict (ds.modify i λe=> {e with val:=y}) nn}:Obj)|none=> {cls:=.type "dict",data:=.dict (ds.push ⟨hsh,.str (S.n a) tk,y⟩) (nn+1)}):=by
  intro hsh tk;refine Obj.putName_eq.symm▸?_;rfl
 have spec:∀hsh tk,∃ds' nn',Obj.putName (S.n a) hsh (.str (S.n a) tk) y {cls:=.type "dict",data:=.dict ds nn}={cls:=.type "dict",data:=.dict ds' nn'}/\ds'.size<=ds.size+1/\cU S g sh.heap (a9 fs a v) ds'.toList:=by
  intro hsh tk;have fp:=h5.bU (hsh:=hsh) (tk:=tk) r.ok.nm ha.1 qv;rw[bU];have fi:ds.toList.findIdx? (·.key.isStr (S.n a))=ds.findIdx? (·.key.isStr (S.n a)):=by clear c hlen f3 f2 f1 hd' hcd c2 c1 c3 zz0 c4 zz1 hc I h5 h3 h2 z5 qo;induction ds;simp
  rw[fi] at fp;cases hi:ds.findIdx? (·.key.isStr (S.n a)) with
  |some i=>rw[hi] at fp;exact bQ _ _ rfl (by simp) (by simpa using fp)|none=>replace fp:=hi▸fp;exact bQ _ _ rfl (by simp) (by simpa using fp)
 refine aw (spec (R6 S.w.params (S.n a)) (sh.toks+1)) λds' nn' e1 e2 e3=>?_;have GB:(sh.heap.update da (Obj.putName (S.n a) (R6 S.w.params (S.n a)) (.str (S.n a) (sh.toks+1)) y)).get? da=some {cls:=.type "dict",data:=.dict ds' nn'}:=by have:=QL (h:=sh.heap) (Obj.putName (S.n a) (R6 S.w.params (S.n a)) (.str (S.n a) (sh.toks+1)) y) h4 (congrArg _ e1);simp only[e1] at this;exact this
 have sb:=Qo sh.heap da (Obj.putName (S.n a) (R6 S.w.params (S.n a)) (.str (S.n a) (sh.toks+1)) y);have ex:∀ {X:List Addr},aG S X g sh.heap g (sh.heap.update da (Obj.putName (S.n a) (R6 S.w.params (S.n a)) (.str (S.n a) (sh.toks+1)) y)):=aG.a9 r h1 sb ⟨_,GB⟩;refine(?_:wpAny _ _ _ _ _ {sh with heap:=sh.heap.update da (Obj.putName (S.n a) (R6 S.w.params (S.n a)) (.str (S.n a) (sh.toks+1)) y),toks:=sh.toks+1+1});refine wpAny_bind (wpAny_lookBehind GB (pastItsLine_dict (by rw[sizeLine_eq];exact LG e2 hlen hz)) ?_);refine wpAny_pure ?_;exact k _ _ ex (r.bU h1 sb (bW ds' nn' GB (e3.ext (X:=[]) ex)))
end
end
section
open PySem PySem.W PyProof.Rows PySem.SeqAt
open Sem (wp)
variable{S:SI}{g g' g'':Gh}{h h' h'':Heap}{X Y:List Addr}{s s':St}{sh sh':Shared}
section
variable{hN:Bool}{n:Nat}{sc:Sc}{ctx:Ctx}{A:Around}{α β:Type}{V1:Gh->Heap->β->α->Prop}
theorem DU{l:Nat}{a:Addr}{vs':List V}{xs':Array Value}{m tk:Nat}(r:aD S g s sh)(h1:g.ar[l]?=some a)(hl:h'.get? a=some {cls:=.type "list",data:=.seq xs' m})(hs:P0 a sh.heap h')(q:aI S g sh.heap vs' xs'.toList):
  aG S X g sh.heap g h'/\aD S g (s.bU l (.list vs')) {sh with heap:=h',toks:=tk}:=by
 have live:∃o,h'.get? a=some o:=⟨_,hl⟩;exact⟨aG.a9 r h1 hs live,r.bU h1 hs (bW xs' m hl (q.ext (aG.a9 (X:=[]) r h1 hs live)))⟩
theorem jr{l:Nat}{a:Addr}{vs':List V}{xs:Array Value}{f:Array Value->Array Value}{m tk:Nat}(r:aD S g s sh)(h1:g.ar[l]?=some a)(ho:sh.heap.get? a=some {cls:=.type "list",data:=.seq xs m})(q:aI S g sh.heap vs' (f xs).toList):
  aG S X g sh.heap g (sh.heap.update a (Qs f))/\aD S g (s.bU l (.list vs')) {sh with heap:=sh.heap.update a (Qs f),toks:=tk}:=by
 obtain⟨m',e⟩:∃m',Qs f {cls:=.type "list",data:=.seq xs m}={cls:=.type "list",data:=.seq (f xs) m'}:=⟨_,rfl⟩;refine DU (m:=m') r h1 ?_ (Qo ..) q;simp only[QL _ ho (congrArg _ e),e]
theorem uG{prog:Program}{w:World}{Ex:Ec}{l:Addr}{o:Obj}{xs:Array Value}{m:Nat}{k:Int}{t:Tok}{y:Value}{Q:Unit->Shared->Prop}(ho:sh.heap.get? l=some o)(hc:o.cls=.type "list")(hd:o.data=.seq xs m)
  (h0:0<=k) (hfit:k<2^63) (hn:k<xs.size) (hQ:Q () {sh with heap:=sh.heap.update l (Qs (·.setIfInBounds k.toNat y))}):wpAny (model prog w) A (setItem (.ref l) (.int k t) y) Q Ex sh:=by
 have ty:sh.TypeIs (.ref l) "list":=ag _ ho hc;refine wpAny_holding (wpAny_bind (wpAny_sequenceKey ty (by decide) ?_));refine wpAny_bind (wpAny_callSpecial?_slot (name:=sj "__setitem__") ty slot_list_setitem (wpAny_call_entry slot_list_setitem ty entry_list_setitem ?_ (args_list_setitem _ _ _)));refine(?_:wpAny _ _ (Builtin.List.listSubscript? (.int k t)>>=_) _ _ sh);refine wpAny_bind (wpAny_listSubscript_int (fitsIndex_of h0 hfit) ?_);clear hfit;obtain⟨j,rfl⟩:=Int.eq_ofNat_of_zero_le h0;have hin:xs[j]?=some xs[j]:=Array.getElem?_eq_getElem (by omega);refine wpAny_bind (wpAny_bind (wpAny_seqItemAt ho hd (wpAny_pure ?_)));refine hin.symm▸?_;refine wpAny_bind (wpAny_setSeqItemAt ho hd ?_)
 first
  |exact wpAny_bind (wpAny_pure (wpAny_pure (j2 .none rfl (wpAny_pure hQ))))|exact wpAny_pure (ag .none rfl (wpAny_pure hQ))
theorem ku{l:Nat}{a:Addr}{vs:List V}{k:Nat}{t:Tok}{v:V}{y:Value}{Q:Unit->Shared->Prop}{Ex:Ec}(r:aD S g s sh)(q:VR S g sh.heap (.ar l) (.ref a))(hl:s.get l=some (.list vs))(hk:k<vs.length)(hfit:(k:Int)<2^63)(qv:VR S g sh.heap v y)
  (kq:∀h' tk,aG S X g sh.heap g h'->aD S g (s.bU l (.list (ua v vs k))) {sh with heap:=h',toks:=tk}->Q () {sh with heap:=h',toks:=tk}):wpAny S.M A (setItem (.ref a) (.int k t) y) Q Ex sh:=by
 refine eD (dH r q hl) λa' xs m e h1 ho q1=>?_;refine(Qq e)▸?_;have hlen:=q1.dz;obtain⟨e1,e2⟩:=jr (X:=X) (f:=(·.setIfInBounds k y)) (tk:=sh.toks) (vs':=ua v vs k) r h1 ho (by
  rw[AQ];have:=q1.set qv k;simpa using this)
 exact uG ho rfl rfl (Int.ofNat_nonneg _) hfit (by omega) (kq _ _ e1 e2)
theorem W.yz{vs keep:List Value}{b:β}{V1:Gh->Heap->β->Unit->Prop}(r:aD S g s sh)(v:V1 g sh.heap b ()):W S X A V1 (release vs keep) g sh (.ok b s):=λQ Ex hq=>wpAny_release (hq g sh () .refl r v)
set_option tactic.hygienic true in
theorem ma{a:Nat}{o v:V}{x y:Value}(ha:S.uF a)(r:aD S g s sh)(qo:VR S g sh.heap o x)(qv:VR S g sh.heap v y):
  W S X A (λ_ _ (_:Unit) (_:Unit)=>True) (setAttr x (S.n a) y) g sh (dB o a v s):=by
 cases o<;>try trivial
 rename_i c d;unfold dB;dsimp only;split
 .rename_i fs hfs;cases z:aN (len fs) with
  |false=>trivial|true=>exact λQ Ex k=>sO (X:=X) ha r qo hfs (bp z) qv λh' tk e1 r1=>k g _ () e1 r1 trivial
 .trivial
set_option tactic.hygienic true in
theorem uH{o i v:V}{x k y:Value}(hu:A.units+9<cLine)(r:aD S g s sh)(qo:VR S g sh.heap o x)(qi:VR S g sh.heap i k)(qv:VR S g sh.heap v y):
  W S X A (λ_ _ (_:Unit) (_:Unit)=>True) (setItem x k y) g sh (fK o i v s):=by
 cases o<;>try trivial
 rename_i l;unfold fK;dsimp only;split
 .rename_i es hes;cases z:aA i with
  |false=>trivial|true=>
   dsimp only;cases z2:aN (len es) with
   |false=>trivial|true=>
    refine eD (eO r qo hes) λd ds nn z3 hgl ho hrest=>?_;obtain rfl:=z3;have hT:sh.TypeIs (.ref d) "dict":=ag _ ho rfl;refine λQ Ex kq=>?_;unfold setItem
    try with_reducible refine wpAny_holding ?_
    refine wpAny_bind (wpAny_sequenceKey hT (by decide) ?_);refine wpAny_bind (wpAny_callSpecial?_slot (name:=sj "__setitem__") hT slot_dict_setitem
     (wpAny_call_entry slot_dict_setitem hT entry_dict_setitem ?_ (args_dict_setitem _ _ _)))
    refine wpAny_bind (wpAny_notOrdered_dict hT ?_);refine(?_:wpAny _ _ (dictSet d k y>>=_) _ _ sh);exact wpAny_bind (lX (X:=X) (A:=A.in1) (by omega) r qo hes (bp z2) z qi qv λh' tk sb r' ex=>wpAny_pure (ag .none rfl (wpAny_pure (kq g _ () ex r' trivial))))
 .rename_i vs hvs;cases i<;>try trivial
  rename_i i;obtain⟨t,rfl⟩:=qi.aB;clear qi hu;induction i with
  |negSucc _=>trivial|ofNat m=>
   dsimp only;cases z:aP (QT m (len vs)) (aN m) with
   |false=>trivial|true=>obtain⟨z1,z2⟩:=aL.mp z;have z1:=(ek _ _).mp z1;simp only[aJ] at z1;have z2:=gw z2;refine a8 (cg r qo hvs) λa xs z2 _=>?_;obtain rfl:=z2;exact λQ Ex kq=>ku (X:=X) r qo hvs z1 (by lia) qv λh' tk e1 r1=>kq g _ () e1 r1 trivial
 .trivial
theorem GC{a:Nat}{c:Code V}{pe:PE}{pos:Pos}{nm:Str}(hnm:nm=S.n a)(ha:S.uF a)(w:aF S hN n sc ctx c pe):l7 S hN n sc ctx (t.ah c a) (.Attribute pe nm pos):=λA g s sh lo env v y p qv=>by
 subst hnm;show W S [] A _ (holding [y] (eval pe env)>>=λov=>standAt pos.atName>>=λzz=>holding [y,ov] (setAttr ov (S.n a) y)>>=λzz=>release [y,ov] []) g sh
  ((c ctx lo s).bind λo s=>(dB o a v s).bind λzz s=>.ok lo s)
 refine W.bind (W.dW (w A g s sh lo env p)) λo s1 g1 sh1 x zz e1 r1 q1=>W.aT ?_;have p1:=p.step e1 r1;refine W.bind (W.dW (ma ha r1 q1 (qv.ext e1))) λzz s2 g2 sh2 zz zz e2 r2 zz=>?_;exact W.yz r2 (p1.step e2 r2).gX
theorem Jf{c i:Code V}{pe ie:PE}{pos:Pos}(w:aF S hN n sc ctx c pe)(wi:aF S hN n sc ctx i ie):l7 S hN n sc ctx (t.az c i) (.Subscript pe ie pos):=λA g s sh lo env v y p qv=>by refine W.bind (W.dW (w A g s sh lo env p)) λo s1 g1 sh1 x zz e1 r1 q1=>?_;have p1:=p.step e1 r1;refine W.bind (W.dW (wi A g1 s1 sh1 lo env p1)) λk s2 g2 sh2 z zz e2 r2 q2=>W.aT ?_;have p2:=p1.step e2 r2;refine W.bind (W.dW (uH (by have:=p.a.units;exact ul this rfl) r2 (q1.ext e2) q2 ((qv.ext e1).ext e2))) λzz s3 g3 sh3 zz zz e3 r3 zz=>?_;exact W.yz r3 (p2.step e3 r3).gX
theorem l7.M7{t:TC}{pe:PE}(w:l7 S hN n sc ctx t pe):nZ S hN n sc ctx t pe:=λA g s sh lo env v y p q=>(w A g s sh lo env v y p q).nil
theorem Jg{x:Nat}{y:Str}{pos:Pos}(hy:y=S.n x)(hx:x<S.nm.length)(hk:zF (sc.lookup y)=true):nZ S hN n sc ctx (t.vr x) (.Name y pos):=λA g s sh lo env v z p q=>by subst hy;exact W.aT (n6 p hx hk q)
theorem W.uI{α' β':Type}{V2:Gh->Heap->β'->α'->Prop}{t:Sem α}{f:α->Sem α'}{r:R β}{k:β->St->R β'}(w:W S [] A V1 t g sh r)
  (c:∀b s1 g1 sh1 a,r=.ok b s1->aG S [] g sh.heap g1 sh1.heap->aD S g1 s1 sh1->V1 g1 sh1.heap b a->W S X A V2 (f a) g1 sh1 (k b s1)):W S X A V2 (t>>=f) g sh (r.bind k):=by
 induction r with
 |no n=>trivial|ez n s'=>exact λhh Q Ex hq=>wpAny_bind (w hh _ Ex λg' sh' e h1 h2 h3=>hq g' sh' e h1.nil h2 h3)|ok b s1=>
  refine(?_:W S X A V2 (t>>=f) g sh (k b s1));have c':=λg1 sh1 a=>c b s1 g1 sh1 a rfl;revert c';cases k b s1 with
  |no n=>intro _;trivial|ez n s2=>intro c' hh Q Ex hq;exact wpAny_bind (w _ Ex λg1 sh1 a e1 r1 v1=>c' g1 sh1 a e1 r1 v1 hh Q Ex λg2 sh2 e e2 r2 v2=>hq g2 sh2 e (e1.nil.trans e2) r2 (v2.sr λzz z=>e1.dG z))|ok b2 s2=>intro c' Q Ex hq;exact wpAny_bind (w _ Ex λg1 sh1 a e1 r1 v1=>c' g1 sh1 a e1 r1 v1 Q Ex λg2 sh2 a2 e2 r2 v2=>hq g2 sh2 a2 (e1.nil.trans e2) r2 v2)
theorem aF.yA{c:Code V}{pe:PE}{lo:Lo}{env:PM}{f:Value->Sem α}{k:V->St->R β}(w:aF S hN n sc ctx c pe)(p:bX S hN n sc A g s sh lo env)
  (q:∀v s1 g1 sh1 a,aG S [] g sh.heap g1 sh1.heap->bX S hN n sc A g1 s1 sh1 lo env->VR S g1 sh1.heap v a->W S X A V1 (f a) g1 sh1 (k v s1)):W S X A V1 (eval pe env>>=f) g sh ((c ctx lo s).bind k):=
 W.uI (w A g s sh lo env p) λb s1 g1 sh1 a zz e r v=>q b s1 g1 sh1 a e (p.step e r) v
theorem fc.yA{c:Code V}{pe:PE}{lo:Lo}{env:PM}{f:Bool->Sem α}{k:Bool->St->R β}(w:fc S hN n sc ctx c pe)(p:bX S hN n sc A g s sh lo env)
  (q:∀b s1 g1 sh1,aG S [] g sh.heap g1 sh1.heap->bX S hN n sc A g1 s1 sh1 lo env->W S X A V1 (f b) g1 sh1 (k b s1)):W S X A V1 (PySem.isTrue pe env (eval pe env)>>=f) g sh ((ea c ctx lo s).bind k):=
 W.uI (w A g s sh lo env p) λb s1 g1 sh1 a zz e r v=>by obtain rfl:a=b:=v;exact q a s1 g1 sh1 e (p.step e r)
inductive md (S:SI) (hN:Bool) (n:Nat) (sc:Sc) (ctx:Ctx):List TC->List PE->Prop
 |nil:md S hN n sc ctx [] []|cons {t:TC} {pe:PE} {ts:List TC} {pes:List PE}:nZ S hN n sc ctx t pe->di pe=true->md S hN n sc ctx ts pes->md S hN n sc ctx (t::ts) (pe::pes)
theorem cL{pe:PE}(h:di pe=true)(rest:List PE)(env:PM):assignEach (pe::rest) env=(false,assign pe env)::assignEach rest env:=by cases pe<;>first|rfl|exact ft h
theorem md.Jh{ts:List TC}{pes:List PE}(q:md S hN n sc ctx ts pes)(env:PM):(assignEach pes env).length=ts.length/\(assignEach pes env).findIdx? (·.1)=none:=by
 induction q with
 |nil=>exact⟨rfl,rfl⟩|cons w hs _ ih=>rw[cL hs];refine⟨by simp[ih.1],?_⟩;refine(List.findIdx?_cons).trans ?_;simp[ih.2]
noncomputable def uJ (c:Ctx) (ts:List TC):List V->Lo->St->R Lo:=@QA _ (λzz=>List V->Lo->St->R Lo) (λzz lo s=>.ok lo s) (λt zz ih vs lo s=>Rb vs (.ok lo s) (λv vs=>(t v c lo s).bind λlo s=>ih vs lo s)) ts
noncomputable abbrev VA (S:SI) (env:PM):Gh->Heap->Lo->Unit->Prop:=λg h lo' zz=>gx S env g h lo'
theorem zN{ts:List TC}{pes:List PE}{env:PM}(q:md S hN n sc ctx ts pes):∀ {vs:List V} {xs:List Value} {lo:Lo} {g s sh},bX S hN n sc A g s sh lo env->aI S g sh.heap vs xs->ts.length=vs.length->
  W S (FX env) A (VA S env) (assignInOrder ((assignEach pes env).map (·.2)) xs) g sh (uJ ctx ts vs lo s):=by
 induction q with
 |nil=>intro vs xs lo g s sh p qv hl;exact W.pure p.r p.gX
 |@cons t pe ts pes w hs _ ih=>
  intro vs xs lo g s sh p qv hl;cases vs with
  |nil=>cases hl
  |cons v vs=>refine aw qv.bI λx ys z2 q1 q2=>?_;clear qv a;obtain rfl:=z2;rw[cL hs];refine(?_:W S (FX env) A (VA S env) (holding ys (assign pe env x)>>=λzz=>assignInOrder ((assignEach pes env).map (·.2)) ys) g sh ((t v ctx lo s).bind λlo s=>uJ ctx ts vs lo s));refine W.bind (W.dW (w A g s sh lo env v x p q1)) λlo' s1 g1 sh1 zz zz e1 r1 af=>?_;exact ih (p.l5 e1 r1 af) (q2.ext e1) (by simpa using hl)
theorem ExtBut.keeps{h h':Heap}(e:Heap.ExtBut h.objs.size h h'):∀a o,h.get? a=some o->h'.get? a=some o:=λa o q=>e a o (Qw (Rk q)) q
set_option tactic.hygienic true in
theorem Ji{ts:List TC}{pes:List PE}{k:Nat}{pos:Pos}(q:md S true n sc ctx ts pes):nZ S true n sc ctx (t.av ts) (.Tuple pes k pos):=λA g s sh lo env v y p qv=>by
 refine(?_:W S (FX env) A (VA S env) (standAt pos>>=λ_=>unpack y (assignEach pes env)) g sh (t.av ts v ctx lo s));refine W.aT ?_;cases v<;>try trivial
 rename_i vs;refine aw qv.cG λa xs z2 ht qs=>?_;refine z2▸?_;refine(?_:W S (FX env) A (VA S env) _ g sh (match P8 (len ts) (len vs) with|true=>uJ ctx ts vs lo s|false=>.no 76));cases z:P8 (len ts) (len vs) with
 |false=>trivial|true=>
  have hl:=(cD _ _).mp z;simp only[aJ,aJ] at hl;refine dw (q.Jh env) λsh1 sh2=>?_;have hlen:=qs.dz;have key:∀h',Heap.ExtBut sh.heap.objs.size sh.heap h'->W S (FX env) A (VA S env) (assignInOrder ((assignEach pes env).map (·.2)) xs.toList) g {sh with heap:=h'} (uJ ctx ts vs lo s):=λh' he=>by have e:aG S [] g sh.heap g h':=aG.bq (ExtBut.keeps he);exact zN q (p.step e (p.r.bq (tk:=sh.toks) (ExtBut.keeps he))) (qs.ext e) hl
  have hh:=p.a.hd rfl;cases zr:uJ ctx ts vs lo s with
  |no _=>trivial|ez k s'=>
   exact λ_ Q Ex hq=>unpack_tuple hh (i0 ht) (IM sh1 hl hlen) sh2 λh' he=>by have w:=key h' he;simp only[zr] at w;exact w hh Q Ex λg' sh' e h1 h2 h3=>hq g' sh' e ((aG.bq (ExtBut.keeps he)).trans h1) h2 (h3.sr λ_ z=>(aG.bq (S:=S) (X:=FX env) (g:=g) (ExtBut.keeps he)).dG z)
  |ok b s'=>
   exact λQ Ex hq=>unpack_tuple hh (i0 ht) (IM sh1 hl hlen) sh2 λh' he=>by have w:=key h' he;replace w:=zr▸w;exact w Q Ex λg' sh' e h1 h2 h3=>hq g' sh' e ((aG.bq (ExtBut.keeps he)).trans h1) h2 h3
theorem GD{pos:Pos}:iN S hN n sc ctx Mp.s.ue (.Pass pos):=λA g s sh lo env p=>by exact W.aT (W.pure p.r ⟨.next,p.gX⟩)
theorem Jj{pos:Pos}:iN S hN n sc ctx Mp.s.brk (.Break pos):=λA g s sh lo env p=>by exact W.aT (W.pure p.r ⟨.brk,p.gX⟩)
theorem GF{pos:Pos}:iN S hN n sc ctx Mp.s.cont (.Continue pos):=λA g s sh lo env p=>by exact W.aT (W.pure p.r ⟨.cont,p.gX⟩)
theorem GG{st:Stmt}:iN S hN n sc ctx Mp.s.stop st:=λA g s sh lo env p=>trivial
theorem Jk{c:Code V}{pe:PE}{pos:Pos}(w:aF S hN n sc ctx c pe):iN S hN n sc ctx (Mp.s.ret c) (.Return (some pe) pos):=λA g s sh lo env p=>by refine W.aT (w.bind p λv s1 g1 sh1 x e1 p1 q1=>?_);exact W.pure p1.r ⟨.ret q1,p1.gX⟩
theorem GH{pos:Pos}:iN S hN n sc ctx (Mp.s.ret e.none) (.Return none pos):=λA g s sh lo env p=>by refine(?_:W S [] A (VS S env) (standAt pos>>=λzz=>P2 (.ret .none)) g sh (.ok (.ret .none,lo) s));exact W.aT (W.pure p.r ⟨.ret (by rfl),p.gX⟩)
noncomputable def i7:PE->Bool
 |.ListComp .. =>false|.SetComp .. =>false|.DictComp .. =>false|_=>true
theorem jR{pe:PE}(h:i7 pe=true)(t:Option PE)(k:Nat)(env:PM):swapsWith pe t k env=P2 false:=by cases pe<;>first|rfl|exact ft h
theorem mV{env:PM}(w:iX S env g h):interactive env=false:=by unfold interactive;refine w.kind.symm▸?_;rfl
theorem Bi{c:Code V}{pe:PE}{pos:Pos}(hc:i7 pe=true)(w:aF S hN n sc ctx c pe):iN S hN n sc ctx (Mp.s.expr c) (.Expr pe pos):=λA g s sh lo env p=>by rw[exec_Expr env pe pos (mV p.e) (jR hc _ _ _)];refine W.aT (w.bind p λv s1 g1 sh1 x e1 p1 q1=>?_);exact λQ Ex k=>wpAny_dropValue (k g1 sh1 _ .refl p1.r ⟨.next,p1.gX⟩)
theorem GI{t:Code V}{b o:SC}{te:PE}{be oe:List Stmt}{pos:Pos}(wt:fc S hN n sc ctx t te)(wb:iM S hN n sc ctx b be)(wo:iM S hN n sc ctx o oe):fe S hN n sc ctx (Mp.s.cond t b o) (.If te be oe pos):=λA g s sh lo env p=>by
 refine W.aT (wt.yA p λc s1 g1 sh1 e1 p1=>?_);induction c with
 |true=>exact wb A g1 s1 sh1 lo env p1|false=>exact wo A g1 s1 sh1 lo env p1
theorem bg:iM S hN n sc ctx (block []) []:=λA g s sh lo env p=>W.pure p.r ⟨.next,p.gX⟩
theorem wM{c:SC}{cs:List SC}{st:Stmt}{sts:List Stmt}(w:fe S hN n sc ctx c st)(ws:iM S hN n sc ctx (block cs) sts):iM S hN n sc ctx (block (c::cs)) (st::sts):=λA g s sh lo env p=>by
 refine W.bind (w A g s sh lo env p) λb s1 g1 sh1 a zz e1 r1 q=>?_;obtain⟨f,lo1⟩:=b;obtain⟨q1,q2⟩:=q;have p1:=p.l5 e1 r1 q2;cases q1 with
 |next=>exact ws A g1 s1 sh1 lo1 env p1|brk=>exact W.pure r1 ⟨.brk,q2⟩|cont=>exact W.pure r1 ⟨.cont,q2⟩|ret h=>exact W.pure r1 ⟨.ret h,q2⟩
theorem Bj{t:TC}{c:Code V}{te pe:PE}{pos:Pos}(hc:i7 pe=true)(hsw:∀env,swappedStores [te] pe env=P2 none)(hs:di te=true)(wt:nZ S hN n sc ctx t te)(w:aF S hN n sc ctx c pe):fe S hN n sc ctx (Mp.s.aq t c) (.Assign [te] pe pos):=λA g s sh lo env p=>by
 show W S (FX env) A (VS S env) (standAt pos>>=λzz=>swapsWith pe (some te) pos.line env>>=λb=>if b then(do evalThenUse pe env λv=>assignAll v ((assignEach [te] env).map (·.2));P2 .next) else(eval pe env>>=λv=>swappedStores [te] pe env>>=λsw=>assignStores env v sw ((assignEach [te] env).map (·.2)))) g sh
  ((c ctx lo s).bind λv s=>(t v ctx lo s).bind λlo s=>.ok (.next,lo) s)
 refine W.aT ?_;rw[jR hc,hsw];refine W.rule (t:=eval pe env>>=λv=>assign te env v>>=λzz=>P2 .next) ?_ λQ Ex k=>wpAny_bind (wpAny_pure ?_)
 .refine w.yA p λv s1 g1 sh1 x e1 p1 q1=>?_;refine W.bind (wt A g1 s1 sh1 lo env v x p1 q1) λlo' s2 g2 sh2 zz zz e2 r2 af=>?_;exact W.pure r2 ⟨.next,af⟩
 .rw[cL hs];exact k
theorem zO{t:TC}{c:Code V}{te pe:PE}{pos:Pos}(hc:i7 pe=true)(hsw:∀env,swappedStores [te] pe env=P2 none)(hs:di te=true)(wt:l7 S hN n sc ctx t te)(w:aF S hN n sc ctx c pe):iN S hN n sc ctx (Mp.s.aq t c) (.Assign [te] pe pos):=λA g s sh lo env p=>by
 show W S [] A (VS S env) (standAt pos>>=λzz=>swapsWith pe (some te) pos.line env>>=λb=>if b then(do evalThenUse pe env λv=>assignAll v ((assignEach [te] env).map (·.2));P2 .next) else(eval pe env>>=λv=>swappedStores [te] pe env>>=λsw=>assignStores env v sw ((assignEach [te] env).map (·.2)))) g sh
  ((c ctx lo s).bind λv s=>(t v ctx lo s).bind λlo s=>.ok (.next,lo) s)
 refine W.aT ?_;rw[jR hc,hsw];refine W.rule (t:=eval pe env>>=λv=>assign te env v>>=λzz=>P2 .next) ?_ λQ Ex k=>wpAny_bind (wpAny_pure ?_)
 .refine w.bind p λv s1 g1 sh1 x e1 p1 q1=>?_;refine W.bind (wt A g1 s1 sh1 lo env v x p1 q1) λlo' s2 g2 sh2 zz zz e2 r2 af=>?_;exact W.pure r2 ⟨.next,af⟩
 .rw[cL hs];exact k
theorem me{o:qF}{a b:V}{x y:Value}(r:aD S g s sh)(qa:VR S g sh.heap a x)(qb:VR S g sh.heap b y):W S X A (VR S) (inplaceOp (nQ o) x y) g sh (rX o a b s):=by
 induction o<;>try trivial
 .cases a<;>try trivial
  cases b<;>try trivial
  obtain⟨t,rfl⟩:=qa.aB;obtain⟨u,rfl⟩:=qb.aB;exact W.bR r λQ Ex k=>AutoIntOps.iadd_0 (k _ _ VR.mkInt)
 .cases a<;>try trivial
  cases b<;>try trivial
  obtain⟨t,rfl⟩:=qa.aB;obtain⟨u,rfl⟩:=qb.aB;exact W.bR r λQ Ex k=>AutoIntOps.isub_0 (k _ _ VR.mkInt)
theorem Bk{x:Nat}{lo:Lo}{env:PM}{w':Nat}(p:bX S hN n sc A g s sh lo env)(hv:fL (sc.lookup (S.n x))=true)(hc:(S.n x==("__classdict__":Str))=false):W S [] A (VR S) (loadName env (S.n x)) g sh (gN w' (ao lo x) s):=by
 refine W.lW λv hl=>W.val λQ Ex hq=>?_;refine aa p.l λm h1 h2=>?_;have q:=(h2 x v hl).2;have hk:=(p.sc (S.n x)).1.trans hv;refine cJ (env.kindOf (S.n x)) (λz=>?_) λk z=>?_
 .rw[z] at hk;exact ft hk
 .rw[z] at hk q;induction k with
  |«local»=>refine aa q λy h3 h4=>?_;exact wpAny_loadName_local p.e.kind z h1 h3 (hq g sh y .refl p.r h4)
  |cell=>obtain⟨c,y,h3,h4,h5⟩:=q;exact wpAny_loadName_cell p.e.kind z h3 h4 (hq g sh y .refl p.r h5)
  |free=>obtain⟨c,y,h3,h4,h5⟩:=q;exact wpAny_loadName_free p.e.kind z h3 h4 (hq g sh y .refl p.r h5) hc
  |_=>exact ft hk
theorem GJ{x:Nat}{o:qF}{c:Code V}{pe:PE}{y:Str}{np pos:Pos}(hy:y=S.n x)(hx:x<S.nm.length)(hk:zF (sc.lookup y)=true)(hv:fL (sc.lookup y)=true)(hcd:(y==("__classdict__":Str))=false)(w:aF S hN n sc ctx c pe):
  fe S hN n sc ctx (Mp.s.j7 x o c) (.AugAssign (.Name y np) (nQ o) pe pos):=λA g s sh lo env p=>by
 subst hy;show W S (FX env) A (VS S env) (standAt np>>=λzz=>loadName env (S.n x)>>=λold=>holding [old] (eval pe env)>>=λv=>standAt pos>>=λzz=>operate [old,v] (inplaceOp (nQ o) old v)>>=λnew=>standAt np>>=λzz=>bindName env (S.n x) new>>=λzz=>P2 .next) g sh
  ((gN 121 (ao lo x) s).bind λa s=>(c ctx lo s).bind λb s=>(rX o a b s).bind λv s=>.ok (.next,a9 lo x v) s)
 refine W.aT (W.uI (Bk p hv hcd) λa s1 g1 sh1 xa zz e1 r1 q1=>?_);have p1:=p.step e1 r1;refine W.uI (W.dW (w A g1 s1 sh1 lo env p1)) λb s2 g2 sh2 xb zz e2 r2 q2=>W.aT ?_;have p2:=p1.step e2 r2;refine W.uI (W.wA (me r2 (q1.ext e2) q2)) λv s3 g3 sh3 xv zz e3 r3 q3=>W.aT ?_;have p3:=p2.step e3 r3;refine W.bind (r:=.ok (a9 lo x v) s3) (k:=λlo' s=>.ok (Flow.next,lo') s) (n6 p3 hx hk q3) λlo' s4 g4 sh4 zz zz e4 r4 af=>?_;exact W.pure r4 ⟨.next,af⟩
theorem GK{P:G}{a:Nat}{o:qF}{ce cv:Code V}{oe pe:PE}{nm:Str}{tp pos:Pos}(hnm:nm=S.n a)(hg:S.sH P a)(hst:S.uF a)(we:aF S hN n sc ctx ce oe)(wv:aF S hN n sc ctx cv pe):
  iN S hN n sc ctx (Mp.s.kT P ce a o cv) (.AugAssign (.Attribute oe nm tp) (nQ o) pe pos):=λA g s sh lo env p=>by
 subst hnm;show W S [] A (VS S env) (standAt pos>>=λzz=>eval oe env>>=λov=>holding [ov] (standAt tp.atName>>=λzz=>getAttr ov (S.n a) true>>=λold=>holding [old] (eval pe env)>>=λv=>standAt pos>>=λzz=>operate [old,v] (inplaceOp (nQ o) old v))>>=λnew=>
   standAt tp.atName>>=λzz=>holding [new,ov] (setAttr ov (S.n a) new)>>=λzz=>release [new,ov] []>>=λzz=>P2 .next) g sh
  ((ce ctx lo s).bind λob s=>(eb P ob a s).bind λold s=>(cv ctx lo s).bind λb s=>(rX o old b s).bind λr s=>(dB ob a r s).bind λzz s=>.ok (.next,lo) s)
 refine W.aT (we.bind p λob s1 g1 sh1 xo e1 p1 q1=>?_);have:((eb P ob a s1).bind λold s=>(cv ctx lo s).bind λb s=>(rX o old b s).bind λr s=>(dB ob a r s).bind λzz s=>.ok (Flow.next,lo) s)=
   ((eb P ob a s1).bind λold s=>(cv ctx lo s).bind λb s=>rX o old b s).bind λr s=>(dB ob a r s).bind λzz s=>.ok (Flow.next,lo) s:=by
  simp only[R.bind_assoc]
 simp only[this];have inner:W S [] A (VR S) (standAt tp.atName>>=λzz=>getAttr xo (S.n a) true>>=λold=>holding [old] (eval pe env)>>=λv=>standAt pos>>=λzz=>operate [old,v] (inplaceOp (nQ o) old v)) g1 sh1
   ((eb P ob a s1).bind λold s=>(cv ctx lo s).bind λb s=>rX o old b s):=by
  refine W.aT (W.bind (l4 hg p1.r q1) λold s2 g2 sh2 xold zz e2 r2 q2=>?_);have p2:=p1.step e2 r2;refine W.bind (W.dW (wv A g2 s2 sh2 lo env p2)) λb s3 g3 sh3 xb zz e3 r3 q3=>W.aT ?_;exact W.wA (me r3 (q2.ext e3) q3)
 refine W.bind (W.dW inner) λr s4 g4 sh4 xr zz e4 r4 q4=>W.aT ?_;have p4:=p1.step e4 r4;refine W.bind (W.dW (ma hst r4 (q1.ext e4) q4)) λzz s5 g5 sh5 zz zz e5 r5 zz=>W.rule (W.pure r5 ⟨.next,(p4.step e5 r5).gX⟩) λQ Ex k=>wpAny_bind (wpAny_release k)
theorem Bl{c:Code V}{te:PE}{msg:Option PE}{pos:Pos}(w:fc S hN n sc ctx c te):iN S hN n sc ctx (Mp.s.kU c) (.Assert te msg pos):=λA g s sh lo env p=>by
 refine W.aT (w.bind p λb s1 g1 sh1 e1 p1=>?_);induction b with
 |false=>trivial|true=>exact W.pure p1.r ⟨.next,p1.gX⟩
theorem W.Bm{t:Sem α}{r:R β}(h:∀b s',r=.ok b s'->W S X A V1 t g sh (.ok b s')):W S X A V1 t g sh (bb r):=by
 induction r with
 |no k=>trivial|ez k s'=>trivial|ok b s'=>exact h b s' rfl
theorem W.use{t:Sem α}{r:R β}{b:β}{s':St}(w:W S X A V1 t g sh r)(e:r=.ok b s')(Q:α->Shared->Prop)(Ex:Ec)(k:∀g' sh' a,aG S X g sh.heap g' sh'.heap->aD S g' s' sh'->V1 g' sh'.heap b a->Q a sh'):wpAny S.M A t Q Ex sh:=by subst e;exact w Q Ex k
theorem R.cj{γ δ:Type}{r:R γ}{f:γ->St->R δ}{b:δ}{s':St}(e:r.bind f=.ok b s'):∃a s1,r=.ok a s1/\f a s1=.ok b s':=by
 induction r with
 |no k=>exact kW e|ez k s1=>exact Fl e|ok a s1=>exact bW a s1 rfl e
theorem Bn(t:Code V)(b o:SC)(c:Ctx)(lo:Lo)(s:St):Mp.s.v7 t b o c 0 lo s=.no 0:=rfl
theorem Bo(t:Code V)(b o:SC)(c:Ctx)(k:Nat)(lo:Lo)(s:St):Mp.s.v7 t b o c (k+1) lo s=(ea t c lo s).bind λr s=>PS (o c lo s) ((b c lo s).bind λr s=>match r.1 with
  |.next=>Mp.s.v7 t b o c k r.2 s|.cont=>Mp.s.v7 t b o c k r.2 s|.brk=>.ok (.next,r.2) s|.ret v=>.ok (.ret v,r.2) s) r:=rfl
theorem DV{t:Code V}{b o:SC}{te:PE}{be oe:List Stmt}{pos:Pos}(wt:fc S hN n sc ctx t te)(wb:iM S hN n sc ctx b be)(wo:iM S hN n sc ctx o oe):fe S hN n sc ctx (Mp.s.bP t b o) (.While te be oe pos):=λA g s sh lo env p=>by
 refine W.Bm λbF sF hF Q Ex kq=>wpAny_While ?_;refine codeAny_whileLoop (λk sh1=>∃g1 s1 lo1,aG S (FX env) g sh.heap g1 sh1.heap/\bX S hN n sc A g1 s1 sh1 lo1 env/\Mp.s.v7 t b o ctx k lo1 s1=.ok bF sF) ?_ ctx.n (Fo g s lo .refl p hF);rintro k sh1 hh0;refine gQ hh0 λg1 s1 lo1 e1 p1 hk=>?_;clear hh0 hF p;cases k with
 |zero=>simp only[Bn] at hk;exact nomatch hk|succ k=>
  rw[Bo] at hk;refine a8 (R.cj hk) λc s2 ht hk=>?_;refine(wt A g1 s1 sh1 lo1 env p1).use ht _ _ λg2 sh2 a e2 r2 q2=>?_;obtain rfl:a=c:=q2;have p2:=p1.step e2 r2;clear ht wt;induction a with
  |false=>refine(wo A g2 s2 sh2 lo1 env p2).use hk _ _ λg3 sh3 f e3 r3 q3=>?_;exact kq g3 sh3 f ((e1.trans e2.nil).trans e3) r3 q3
  |true=>
   have hk:(b ctx lo1 s2).bind (λr s=>match r.1 with
    |.next=>Mp.s.v7 t b o ctx k r.2 s|.cont=>Mp.s.v7 t b o ctx k r.2 s|.brk=>.ok (.next,r.2) s|.ret v=>.ok (.ret v,r.2) s)=.ok bF sF:=hk
   refine a8 (R.cj hk) λfl s3 hb hk=>?_;refine(wb A g2 s2 sh2 lo1 env p2).use hb _ _ λg3 sh3 f e3 r3 q3=>?_;have ee:=(e1.trans e2.nil).trans e3;clear hb e2 p1 e1 wo wb;obtain⟨f0,lo3⟩:=fl;obtain⟨q3,af⟩:=q3;have p3:=p2.l5 e3 r3 af;cases q3 with
   |next=>exact⟨k,P1 k,g3,s3,lo3,ee,p3,hk⟩|cont=>exact⟨k,P1 k,g3,s3,lo3,ee,p3,hk⟩|brk=>clear p3 e3 p2 r2;injection hk with u v;subst u;cases v;exact kq g3 sh3 .next ee r3 ⟨.next,af⟩
   |ret h=>clear p3 e3 p2 r2;injection hk with u v;subst u;cases v;exact kq g3 sh3 _ ee r3 ⟨.ret h,af⟩
structure jS (S:SI) (F:List Addr) (g:Gh) (h:Heap) (a:Addr):Prop where
 ar:a∉g.ar
 bH:a∉g.bH
 fx:a∉F
 new:S.h0.get? a=none
 bc:∃o vs,h.get? a=some o/\o.data=.fields vs/\o.cls≠ .type "frame"
noncomputable def bC (S:SI) (F:List Addr) (g:Gh) (h:Heap) (fp:List Addr):Prop:=∀a∈fp,jS S F g h a
theorem jS.n7{F:List Addr}{a:Addr}(q:jS S F g h a):∀o,h.get? a=some o->¬sa o:=λo ho=>by refine aw q.bc λo' vs h1 h2 zz=>?_;replace h1:=ho.symm.trans h1;refine(PD h1)▸?_;rintro(⟨_,_,_,z⟩|z|⟨_,z⟩)<;>replace z:=h2.symm.trans z<;>cases z
theorem jS.jy{F:List Addr}{a:Addr}(q:jS S F g sh.heap a)(r:aD S g s sh)(e:aG S F g sh.heap g' sh'.heap){o:Obj}(ho:sh.heap.get? a=some o):sh'.heap.get? a=some o:=by refine aw q.bc λo' vs h1 h2 h3=>?_;rw[ho] at h1;clear h2 vs;obtain rfl:=PD h1;exact e.keep a o ho q.ar q.fx (fy r q.new) h3
theorem jS.ext{F:List Addr}{a:Addr}(q:jS S F g sh.heap a)(r:aD S g s sh)(e:aG S F g sh.heap g' sh'.heap):jS S F g' sh'.heap a:=by
 refine aw q.bc λo vs h1 h2 h3=>?_;refine⟨λm=>?_,λm=>?_,q.fx,q.new,o,vs,q.jy r e h1,h2,h3⟩
 .refine QK (e.c7 a m) (λz=>?_) λz=>?_
  .exact q.ar z
  .rw[h1] at z;cases z
 .refine QK (e.dO a m) (λz=>?_) λz=>?_
  .exact q.bH z
  .rw[h1] at z;cases z
theorem gY{F fp:List Addr}{tk:Nat}(r:aD S g s sh)(q:bC S F g sh.heap fp)(hk:∀a o,a∉fp->sh.heap.get? a=some o->h'.get? a=some o)(hl:∀a∈fp,∃o,h'.get? a=some o):
  aG S fp g sh.heap g h'/\aD S g s {sh with heap:=h',toks:=tk}:=by
 have hk':=λa o x y=>hk a o y x;exact⟨aG.jw (λz hz zz zz=>hl z hz) hk' (λz hz=>(q z hz).bH) (λz hz=>(q z hz).n7) (λz hz=>.inl hz),
  r.jw hk' (λz hz=>(q z hz).bH) (λz hz=>(q z hz).ar) (λz hz=>(q z hz).n7) (λz hz=>(q z hz).new)⟩
theorem qU{F fp:List Addr}{tk:Nat}{g0:Gh}{h0:Heap}(e:aG S X g0 h0 g sh.heap)(r:aD S g s sh)(q:bC S F g sh.heap fp)(hk:∀a o,a∉fp->sh.heap.get? a=some o->h'.get? a=some o)(hd:∀a∈fp,h0.get? a=none):
  aG S X g0 h0 g h'/\aD S g s {sh with heap:=h',toks:=tk}:=by
 have hk':=λa o x y=>hk a o y x;have nf:∀ {a o},h0.get? a=some o->a∉fp:=λx m=>by rw[hd _ m] at x;exact ns x
 refine⟨{ar:=e.ar,c7:=e.c7,bH:=e.bH,dO:=e.dO,live:=λa o x=>?_,pZ:=λa o x i=>hk' a o (e.pZ a o x i) (nf x),cell:=λa o m x=>hk' a o (e.cell a o m x) (nf x),keep:=λa o x n1 n2 n3 n4=>hk' a o (e.keep a o x n1 n2 n3 n4) (nf x),c8:=λa o x n1 n2 n3=>?_},
  r.jw hk' (λz hz=>(q z hz).bH) (λz hz=>(q z hz).ar) (λz hz=>(q z hz).n7) (λz hz=>(q z hz).new)⟩
 .obtain⟨o',y⟩:=e.live a o x;exact⟨o',hk' a o' y (nf x)⟩
 .refine PW (e.c8 a o x n1 n2 n3) λsl y=>?_;exact⟨sl,hk' a _ y (nf x)⟩
inductive kO (S:SI) (g:Gh) (h:Heap):It->Addr->List Addr->Prop
 |list {l i:Nat} {a la:Addr}:g.ar[l]?=some la->h.IsListIter a la i->kO S g h (.list l i) a [a]|av {vs:List V} {a t:Addr} {xs:Array Value} {i:Nat}:h.IsTuple t xs->h.IsTupleIter a t i->aI S g h vs (xs.toList.drop i)->kO S g h (.av vs) a [a]|str {x y:List Nat} {a:Addr} {t:Tok} {i:Nat} {ty:String}:(ty="str_ascii_iterator"\/ty="str_iterator")->h.IsStrIter a ty (ak y) t i->x=y.drop i->kO S g h (.str x) a [a]|range {i stop:Int} {a:Addr} {left:Int}:IsRangeIter h a i left 1->left=max 0 (stop-i)->kO S g h (.range i stop) a [a]|fV {d i n:Nat} {a da:Addr}:g.ar[d]?=some da->h.IsKeyIter a da i n n->kO S g h (.fV d i n) a [a]|items {d i n:Nat} {a da:Addr} {ok ov:Value}:g.ar[d]?=some da->IsItemIter h a da i n n ok ov->kO S g h (.items d i n) a [a]|jE {l k:Nat} {e b la:Addr} {old:Value}:g.ar[l]?=some la->h.IsListIter b la k->IsEnum h e b k old->e≠b->kO S g h (.hI (.list l k) k) e [e,b]|jF {vs:List V} {t:Addr} {xs:Array Value} {k:Nat} {e b:Addr} {old:Value}:h.IsTuple t xs->h.IsTupleIter b t k->aI S g h vs (xs.toList.drop k)->IsEnum h e b k old->e≠b->k<=xs.size->kO S g h (.hI (.av vs) k) e [e,b]
theorem kO.mem{it:It}{a:Addr}{fp:List Addr}(q:kO S g h it a fp):a∈fp:=by induction q<;>exact PJ
theorem kO.ext{F:List Addr}{it:It}{a:Addr}{fp:List Addr}(q:kO S g sh.heap it a fp)(w:bC S F g sh.heap fp)(r:aD S g s sh)(e:aG S F g sh.heap g' sh'.heap):kO S g' sh'.heap it a fp:=by
 induction q with
 |list h1 h2=>obtain⟨o,h3,h4⟩:=h2;exact .list (gf e.ar h1) ⟨o,(w _ (by simp)).jy r e h3,h4⟩
 |av h1 h2 h3=>obtain⟨o,h4,h5⟩:=h2;exact .av (e.kc h1) ⟨o,(w _ (by simp)).jy r e h4,h5⟩ (h3.ext e)
 |str h1 h2 h3=>obtain⟨o,h4,h5⟩:=h2;exact .str h1 ⟨o,(w _ (by simp)).jy r e h4,h5⟩ h3
 |range h1 h2=>exact .range ((w _ (by simp)).jy r e h1) h2|fV h1 h2=>obtain⟨o,h3,h4⟩:=h2;exact .fV (gf e.ar h1) ⟨o,(w _ (by simp)).jy r e h3,h4⟩
 |items h1 h2=>exact .items (gf e.ar h1) ((w _ (by simp)).jy r e h2)|jE h1 h2 h3 h4=>obtain⟨o,h5,h6⟩:=h2;exact .jE (gf e.ar h1) ⟨o,(w _ (by simp)).jy r e h5,h6⟩ ((w _ (by simp)).jy r e h3) h4
 |jF h1 h2 h3 h4 h5 h8=>obtain⟨o,h6,h7⟩:=h2;exact .jF (e.kc h1) ⟨o,(w _ (by simp)).jy r e h6,h7⟩ (h3.ext e) ((w _ (by simp)).jy r e h4) h5 h8
noncomputable def qV:List String:=["enumerate","zip","dict_itemiterator","dict_reverseitemiterator","odict_iterator","itertools.zip_longest","itertools.pairwise"]
theorem n9{target:PE}{a:Addr}{y:Value}{o:Obj}{ty:String}{Q:Unit->Shared->Prop}{Ex:Ec}(ho:sh.heap.get? a=some o)(hc:o.cls=.type ty)(hk:qV.contains ty=false)(h:Q () sh):wpAny S.M A (letOwnedTupleGo target (.ref a) y) Q Ex sh:=by
 have body:∀ts c p,wpAny S.M A (letOwnedTupleGo (.Tuple ts c p) (.ref a) y) Q Ex sh:=λts c p=>by
  unfold letOwnedTupleGo;induction y with
  |ref b=>
   refine wpAny_bind (wpAny_load ho ?_);refine hc.symm▸?_;generalize o.data=dt;induction dt with
   |fields vs=>dsimp only;refine((hk:(["enumerate","zip","dict_itemiterator","dict_reverseitemiterator","odict_iterator","itertools.zip_longest","itertools.pairwise"]:List String).contains ty=false)).symm▸?_;exact wpAny_pure h
   |_=>exact wpAny_pure h
  |_=>exact wpAny_pure h
 cases target
 case Tuple=>exact body _ _ _
 case List=>exact body [] default default
 all_goals exact wpAny_pure h
theorem kz{it t:Addr}{i:Nat}{items:Array Value}{x:Value}{Q:Ec}{Ex:Ec}(cE:sh.heap.IsTupleIter it t i)(ht:sh.heap.IsTuple t items)(hx:items[i]?=some x)
  (hQ:∀h',h'.IsTupleIter it t (i+1)->P0 it sh.heap h'->Q x {sh with heap:=h'}):wpAny S.M A (Builtin.SmallTypes.nextOf (.ref it)) Q Ex sh:=by
 refine aO (id cE) λo ho hc hd=>?_;obtain⟨ol,hol,_,nl,hdl⟩:=ht;refine wpAny_bind (wpAny_callSpecial?_slot (name:=sj "__next__") cE.typeIs F.slot_tuple_iterator_next
  (wpAny_call_entry F.slot_tuple_iterator_next cE.typeIs F.entry_tuple_iterator_next ?_ (F.args_tuple_iterator_next_1 _)))
 refine(?_:wpAny _ _ (field (.ref it) 0>>=_) _ _ sh);refine wpAny_bind (wpAny_field ho hd (x:=.ref t) rfl ?_);refine(if_neg ((R1:¬((QH t==Rz)=true)))).symm▸?_;refine wpAny_bind (wpAny_field ho hd (x:=.int i 0) rfl ?_);refine wpAny_bind (wpAny_seqItems hol hdl ?_);simp only[RJ,hx];refine wpAny_bind (wpAny_setField ho hd (by simp) (wpAny_pure (ag x rfl (wpAny_pure (hQ _ ?_ (Qo ..))))));exact⟨_,QL _ ho (Obj.isFreed_of_fields (Obj.data_mapFields hd _)),(Obj.cls_mapFields ..).trans hc,by
  rw[Obj.data_mapFields hd];simp[rawInt]⟩
theorem jT{A:Around}{α:Type}{Q:α->Shared->Prop}{Ex:Ec}(hh:A.handled=none)(h:∀e h',(∀b o,sh.heap.get? b=some o->h'.get? b=some o)->(∃o,h'.get? e=some o/\o.cls=.type "StopIteration")->Ex (.ref e) {sh with heap:=h'}):
  wpAny S.M A (newExc (.type "StopIteration") []>>=λe=>(raiseNew e:Sem α)) Q Ex sh:=by
 refine wpAny_bind ?_;refine wpAny_bind (wpAny_newObj_type ?_ (by size_fits));refine wpAny_bind (m:=firstArgMember _ _) (wpAny_of_eq (a:=Rz) (by first|rfl|(simp only[firstArgMember];rfl)) ?_);refine wpAny_newObj_type ?_ (by size_fits);refine wpAny_bind (wpAny_handled ?_);rw[hh];exact wpAny_bind (wpAny_pure (wpAny_throw (h _ _ (λb o q=>PO _ (PO _ q)) (ag _ (PQ _ rfl) rfl))))
theorem lq{it t:Addr}{i:Nat}{items:Array Value}{Q:Ec}{Ex:Ec}(hh:A.handled=none)(cE:sh.heap.IsTupleIter it t i)(ht:sh.heap.IsTuple t items)(hx:items[i]?=none)
  (hE:∀h' e,Heap.ExtBut it sh.heap h'->(∃o,h'.get? e=some o/\o.cls=.type "StopIteration")->Ex (.ref e) {sh with heap:=h'}):wpAny S.M A (Builtin.SmallTypes.nextOf (.ref it)) Q Ex sh:=by
 refine aO (id cE) λo ho hc hd=>?_;obtain⟨ol,hol,_,nl,hdl⟩:=ht;refine wpAny_bind (wpAny_callSpecial?_slot (name:=sj "__next__") cE.typeIs F.slot_tuple_iterator_next
  (wpAny_call_entry F.slot_tuple_iterator_next cE.typeIs F.entry_tuple_iterator_next ?_ (F.args_tuple_iterator_next_1 _)))
 refine(?_:wpAny _ _ (field (.ref it) 0>>=_) _ _ sh);refine wpAny_bind (wpAny_field ho hd (x:=.ref t) rfl ?_);refine(if_neg ((R1:¬((QH t==Rz)=true)))).symm▸?_;refine wpAny_bind (wpAny_field ho hd (x:=.int i 0) rfl ?_);refine wpAny_bind (wpAny_seqItems hol hdl ?_);simp only[RJ,hx];refine wpAny_bind (wpAny_rule (wpAny_bind (wpAny_setField ho hd (by simp) ?_)));exact jT hh λe h' hk q=>hE h' e (λb o n z=>hk b o ((Qo ..).extBut b o n z)) q
theorem oa(hh:A.handled=none)(it t:Addr)(hne:t≠it)(items:Array Value):
  Draws S.prog S.w A it [it,t] items.size (λi v=>items[i]?=some v) (λi h=>h.IsTupleIter it t i/\h.IsTuple t items) where
 live:=λzz zz st=>let⟨o,ho,_⟩:=st.1;⟨o,ho⟩
 frame:=λzz zz zz st hk=>let⟨o,ho,r⟩:=st.1;aa st.2 λo2 ho2 r2=>⟨⟨o,hk it (by simp) o ho,r⟩,(ag o2 (hk t (by simp) o2 ho2) r2)⟩
 item:=λi s Q E hi st hQ=>by refine kz (S:=S) st.1 st.2 (x:=items[i]) (by simp[hi]) λh' hit' hs'=>?_;exact hQ _ h' s.toks (by simp[hi]) ⟨hit',st.2.extBut hs'.extBut hne⟩ hs'
 done:=λs Q E st hE=>lq (S:=S) hh st.1 st.2 (by simp) hE
noncomputable abbrev eY (fp:List Addr) (h h':Heap):Prop:=∀b o,b∉fp->h.get? b=some o->h'.get? b=some o
noncomputable def fN:PE->Bool
 |.Tuple .. =>true|_=>false
noncomputable def It.eB:It->Bool
 |.items .. =>false|.hI .. =>false|_=>true
theorem eY.fU{a:Addr}(hs:P0 a h h'):eY [a] h h':=λb o hb e=>(hs.2 b λz=>hb (by simp[z])).trans e
theorem eY.GL{a:Addr}(hs:Heap.ExtBut a h h'):eY [a] h h':=λb o hb e=>hs b o (λz=>hb (by simp[z])) e
theorem qW(l i:Nat)(s:St):next (.list l i) s=match s.get l with
  |some (.list vs)=>match aZ vs i with
   |some v=>some (some (v,.list l (i+1)))|.none=>some .none
  |_=>.none:=rfl
section
variable{a:Addr}{fp:List Addr}{F:List Addr}{it it':It}{v:V}{target:PE}{T1:Shared->Prop}{T2:Ec}{Ex E2:Ec}
set_option tactic.hygienic true in
theorem qX{l i:Nat}{la:Addr}{res:Option (V×It)}(r:aD S g s sh)(h1:g.ar[l]?=some la)(hn:next (.list l i) s=some res):∃xs,sh.heap.IsList la xs/\((res=none/\xs[i]?=none)\/∃v x,res=some (v,.list l (i+1))/\xs[i]?=some x/\VR S g sh.heap v x):=by
 rw[qW] at hn;refine PW (r.bc l la h1) λo hz0=>?_;refine cJ (s.get l) (λhg=>?_) λo' hg=>?_
 .rw[hg] at hn;exact ns hn
 .obtain rfl:=PD (hg.symm.trans hz0.1);rw[hg] at hn;clear hg h1 r;induction o'<;>first|(exact ns hn;done)|skip
  refine a8 hz0.2 λxs hm hlo qs=>?_;refine ag xs ⟨_,hlo,rfl,hm,rfl⟩ ?_;dsimp only at hn;rw[bz] at hn;rename_i vs;refine cJ (vs[i]?) (λhv=>?_) λv hv=>?_
  .rw[hv] at hn;exact .inl ⟨(PD hn).symm,(Qn ..).symm.trans (qs.none hv)⟩
  .rw[hv] at hn;refine PW (qs.Jc hv) λx hz00=>?_;exact .inr (bQ v x ((PD hn).symm) hz00.1 hz00.2)
theorem uK{vs:List V}{xs:Array Value}{i:Nat}{res:Option (V×It)}(h3:aI S g h vs (xs.toList.drop i))(hn:next (.av vs) s=some res):(res=none/\xs[i]?=none)\/∃v vs' x,res=some (v,.av vs')/\xs[i]?=some x/\VR S g h v x/\aI S g h vs' (xs.toList.drop (i+1)):=by
 induction vs with
 |nil=>exact .inl ⟨(PD hn).symm,Array.getElem?_eq_none_iff.mpr (QG▸List.drop_eq_nil_iff.mp h3.fj)⟩|cons v vs=>refine mZ h3.bI λx ys hz0=>?_;exact .inr (qL v vs x ((PD hn).symm) ((Qn ..).symm.trans (((RX .. :(xs.toList.drop i)[0]?=xs.toList[i]?)).symm.trans (congrArg (·[0]?) hz0.1))) hz0.2.1 ((congrArg List.tail hz0.1).symm.trans List.tail_drop▸hz0.2.2))
theorem uL{x y:List Nat}{i:Nat}{res:Option (V×It)}(h3:x=y.drop i)(hn:next (.str x) s=some res):(res=none/\(ak y).cps[i]?=none)\/∃c x',res=some (.str [c],.str x')/\(ak y).cps[i]?=some c/\x'=y.drop (i+1):=by
 have e:(ak y).cps[i]?=y[i]?:=(Qn ..).symm;induction x with
 |nil=>exact .inl ⟨(PD hn).symm,e.trans (List.getElem?_eq_none (List.drop_eq_nil_iff.mp h3.symm))⟩|cons c x=>exact .inr (bQ c x ((PD hn).symm) (e.trans (((RX .. :(y.drop i)[0]?=y[i]?)).symm.trans (congrArg (·[0]?) h3.symm))) ((congrArg List.tail h3).trans List.tail_drop))
theorem og{i stop:Int}{res:Option (V×It)}(hn:next (.range i stop) s=some res):(res=none/\¬i<stop)\/(res=some (.int i,.range (i+1) stop)/\i<stop):=by
 change (match gM i stop with|true=>some (some (V.int i,It.range (i+1) stop))|false=>some none)=_ at hn;refine cy (gM i stop) (λz=>?_) λz=>?_
 .rw[z] at hn;exact .inl ⟨(PD hn).symm,λq=>Qu (z.symm.trans ((de i stop).mpr q))⟩
 .rw[z] at hn;exact .inr ⟨(PD hn).symm,(de i stop).mp z⟩
theorem qY{l i:Nat}{la:Addr}(r:aD S g s sh)(h1:g.ar[l]?=some la)(hn:next (.list l i) s=some (some (v,it'))):∃xs x,sh.heap.IsList la xs/\it'=.list l (i+1)/\xs[i]?=some x/\VR S g sh.heap v x:=by
 obtain⟨xs,hl,⟨e,_⟩|⟨v',x,e,q⟩⟩:=qX r h1 hn
 .exact sn e
 .clear hn h1 r;obtain⟨rfl,rfl⟩:=RW (PD e);exact⟨xs,x,hl,rfl,q⟩
theorem qZ{l i:Nat}{la:Addr}(r:aD S g s sh)(h1:g.ar[l]?=some la)(hn:next (.list l i) s=some none):∃xs,sh.heap.IsList la xs/\xs[i]?=none:=by
 obtain⟨xs,hl,⟨_,h⟩|⟨_,_,e,_⟩⟩:=qX r h1 hn
 .exact ag xs hl h
 .exact ns e
theorem uM{vs:List V}{xs:Array Value}{i:Nat}(h3:aI S g h vs (xs.toList.drop i))(hn:next (.av vs) s=some (some (v,it'))):∃vs' x,it'=.av vs'/\xs[i]?=some x/\VR S g h v x/\aI S g h vs' (xs.toList.drop (i+1)):=by
 obtain⟨e,_⟩|⟨v',vs',x,e,q⟩:=uK h3 hn
 .exact nomatch e
 .clear hn h3 vs;obtain⟨rfl,rfl⟩:=RW (PD e);exact⟨vs',x,rfl,q⟩
theorem uN{vs:List V}{xs:Array Value}{i:Nat}(h3:aI S g h vs (xs.toList.drop i))(hn:next (.av vs) s=some none):xs[i]?=none:=(uK h3 hn).elim (·.2) λhq0=>fY hq0 λzz zz zz e zz=>ns e
theorem Bp{x y:List Nat}{i:Nat}(h3:x=y.drop i)(hn:next (.str x) s=some (some (v,it'))):∃c x',v=.str [c]/\it'=.str x'/\(ak y).cps[i]?=some c/\x'=y.drop (i+1):=by
 obtain⟨e,_⟩|⟨c,x',e,q⟩:=uL h3 hn
 .exact nomatch e
 .clear hn h3 x;obtain⟨rfl,rfl⟩:=RW (PD e);exact⟨c,x',rfl,rfl,q⟩
theorem wN{i stop left:Int}(hl:left=max 0 (stop-i))(hn:next (.range i stop) s=some (some (v,it'))):v=.int i/\it'=.range (i+1) stop/\0<left/\left-1=max 0 (stop-(i+1)):=by
 refine(og hn).elim (λq=>sn q.1|>λz=>z) λq=>?_;have h:=Int.sub_pos.mpr q.2;have e:max 0 (stop-i)=stop-i:=Int.max_eq_right (Int.le_of_lt h);refine dw (OX q.1) λz1 z2=>⟨z1,z2,?_,?_⟩
 .rw[hl,e];exact h
 .rw[hl,e,Int.max_eq_right (Int.sub_nonneg.mpr (Int.add_one_le_of_lt q.2)),<-Int.sub_sub]
theorem gZ{a:Addr}{ty:String}{o':Obj}{tk:Nat}{y:Value}{P:Shared->Prop}(r:aD S g s sh)(w:bC S F g sh.heap [a])(ho:h'.get? a=some o')(hc:o'.cls=.type ty)(hp:qV.contains ty=false)(hs:P0 a sh.heap h')
  (k:aG S [a] g sh.heap g h'->eY [a] sh.heap h'->(∀z∈[a],∃o,h'.get? z=some o)->P {sh with heap:=h',toks:=tk}):wpAny S.M A (letOwnedTupleGo target (.ref a) y) (λzz s₁'=>P s₁') E2 {sh with heap:=h',toks:=tk}:=
 have live:=λz hz=>PI.mp hz▸⟨o',ho⟩
 n9 (sh:={sh with heap:=h',toks:=tk}) ho hc hp (k (gY (tk:=sh.toks) r w (eY.fU hs) live).1 (eY.fU hs) live)
theorem er(r:aD S g s sh)(q:kO S g sh.heap it a fp)(w:bC S F g sh.heap fp)(hf:it.eB=true)(hnk:∀d i n,it≠ .fV d i n)(hn:next it s=some (some (v,it')))
  (k:∀y h' tk,eY fp sh.heap h'->(∀z∈fp,∃o,h'.get? z=some o)->kO S g h' it' a fp->VR S g h' v y->T2 y {sh with heap:=h',toks:=tk}):
  wpAny S.M A (pyNext (.ref a)) (λr s₁=>match r with|none=>T1 s₁|some v=>wpAny S.M A (letOwnedTupleGo target (.ref a) v) (λzz s₁'=>T2 v s₁') E2 s₁) Ex sh:=by
 induction q with
 |@list l i a la h1 h2=>refine bK (qY r h1 hn) λxs x hl z3 hx qx=>?_;obtain rfl:=z3;refine wpAny_pyNext_list_item h2 hl hx λh' hit' hs'=>?_;refine aO (id hit') λo' ho' hc' zz=>?_;exact gZ (tk:=sh.toks) (P:=T2 x) r w ho' hc' (by decide+kernel) hs' λe1 kk live=>k x h' sh.toks kk live (.list h1 hit') (qx.ext e1)
 |@av vs a t xs i h1 h2 h3=>refine bK (uM h3 hn) λvs' x z2 hx q1 q2=>?_;obtain rfl:=z2;refine wpAny_pyNext_tuple_item h2 h1 hx λh' hit' hs'=>?_;refine PW (id hit') λo' hz0=>?_;exact gZ (tk:=sh.toks) (P:=T2 x) r w hz0.1 hz0.2.1 (by decide+kernel) hs' λe1 kk live=>k x h' sh.toks kk live (.av (e1.kc h1) hit' (q2.ext e1)) (q1.ext e1)
 |@str x y a t i ty h1 h2 h3=>
  refine bK (Bp h3 hn) λc x' z2 z3 hc hx=>?_;obtain rfl:=z2;obtain rfl:=z3;rcases h1 with rfl|rfl
  .refine wpAny_pyNext_ascii_item h2 hc λh' hit' hs'=>?_;obtain⟨o',ho',hc',_⟩:=id hit';exact gZ (tk:=sh.toks+1) (P:=T2 _) r w ho' hc' (by decide+kernel) hs' λzz kk live=>k _ h' _ kk live (.str (.inl rfl) hit' hx) (VR.eE (x:=[c]))
  .refine wpAny_pyNext_wide_item h2 hc λh' hit' hs'=>?_;obtain⟨o',ho',hc',_⟩:=id hit';exact gZ (tk:=sh.toks+1) (P:=T2 _) r w ho' hc' (by decide+kernel) hs' λzz kk live=>k _ h' _ kk live (.str (.inr rfl) hit' hx) (VR.eE (x:=[c]))
 |@range i stop a left h1 h2=>refine Lk (wN h2 hn) λz0 z1 h3 h4=>?_;clear hn h2;obtain rfl:=z0;obtain rfl:=z1;exact wpAny_pyNext_range_item h1 h3 λh' hit' hs'=>gZ (tk:=sh.toks+1) (P:=T2 _) r w hit' rfl (by decide+kernel) hs' λzz kk live=>k _ h' _ kk live (.range hit' h4) VR.mkInt
 |fV _ _=>exact absurd rfl (hnk _ _ _)|items _ _=>exact ft hf|jE _ _ _ _=>exact ft hf|jF _ _ _ _ _ _=>exact ft hf
end
theorem zP{it d:Addr}{i:Nat}{ds:Array DictEntry}{e:DictEntry}{Q:Option Value->Shared->Prop}{Ex:Ec}(cE:sh.heap.IsKeyIter it d i ds.size ds.size)(hod:sh.heap.get? d=some {cls:=.type "dict",data:=.dict ds ds.size})(hx:ds[i]?=some e)
  (hQ:∀h',h'.IsKeyIter it d (i+1) ds.size ds.size->P0 it sh.heap h'->Q (some e.key) {sh with heap:=h'}):wpAny S.M A (pyNext (.ref it)) Q Ex sh:=by
 refine aO (id cE) λo ho hc hd=>?_;obtain⟨hlt,hei⟩:=QV.mp hx;refine wpAny_bind (wpAny_attempt (wpAny_callSpecial?_slot (name:=sj "__next__") cE.typeIs Rv
  (wpAny_call_entry Rv cE.typeIs F.entry_dict_keyiterator_next ?_ (F.args_dict_keyiterator_next_1 _))))
 refine wpAny_bind (wpAny_pure ?_);refine wpAny_bind ?_;refine wpAny_bind ?_;refine wpAny_bind (wpAny_typeNameOfWhole_keyiter cE.typeIs (wpAny_pure ?_));refine wpAny_bind (wpAny_fieldsOf ho hd ?_);refine wpAny_bind (wpAny_pure ?_);refine wpAny_bind (wpAny_dictEntries hod rfl ?_);rw[if_neg (by simp)];refine wpAny_bind (wpAny_pure ?_);refine wpAny_bind (wpAny_dictEpoch hod rfl ?_);rw[if_neg (by simp)];refine wpAny_pure ?_;dsimp only;rw[if_neg (Ru.mpr (QE i)),RJ,hx];refine wpAny_bind ?_;refine wpAny_bind (wpAny_typeNameOfWhole_keyiter cE.typeIs (wpAny_pure ?_));refine wpAny_bind (wpAny_isOneOf_keyiter cE.typeIs ?_);refine(?_:wpAny _ _ (setField (.ref it) 1 (rawInt ((i:Int)+1))>>=_) _ _ sh);refine wpAny_bind (wpAny_setField ho hd (by simp) ?_);have hit':(sh.heap.update it (Obj.mapFields (·.setIfInBounds 1 (rawInt ((i:Int)+1))))).IsKeyIter it d (i+1) ds.size ds.size:=
  bk _ (QL _ ho (Obj.isFreed_of_fields (Obj.data_mapFields hd _))) ((Obj.cls_mapFields ..).trans hc) (by rw[Obj.data_mapFields hd];simp[rawInt])
 refine wpAny_bind (wpAny_holding ?_);refine wpAny_bind (wpAny_isOneOf_keyiter (s:={sh with heap:=sh.heap.update it (Obj.mapFields (·.setIfInBounds 1 (rawInt ((i:Int)+1))))}) hit'.typeIs ?_);exact wpAny_pure (wpAny_pure (ag _ rfl (wpAny_pure (hQ _ hit' (Qo ..)))))
theorem Bq{it d:Addr}{i:Nat}{ds:Array DictEntry}{Q:Option Value->Shared->Prop}{Ex:Ec}(hh:A.handled=none)(cE:sh.heap.IsKeyIter it d i ds.size ds.size)(hod:sh.heap.get? d=some {cls:=.type "dict",data:=.dict ds ds.size})(hx:ds[i]?=none)
  (hQ:∀h',Heap.ExtBut it sh.heap h'->Q none {sh with heap:=h'}):wpAny S.M A (pyNext (.ref it)) Q Ex sh:=by
 refine aO (id cE) λo ho hc hd=>?_;refine wpAny_bind (wpAny_attempt (wpAny_callSpecial?_slot (name:=sj "__next__") cE.typeIs Rv
  (wpAny_call_entry Rv cE.typeIs F.entry_dict_keyiterator_next ?_ (F.args_dict_keyiterator_next_1 _))))
 refine wpAny_bind (wpAny_pure ?_);refine wpAny_bind ?_;refine wpAny_bind ?_;refine wpAny_bind (wpAny_typeNameOfWhole_keyiter cE.typeIs (wpAny_pure ?_));refine wpAny_bind (wpAny_fieldsOf ho hd ?_);refine wpAny_bind (wpAny_pure ?_);refine wpAny_bind (wpAny_dictEntries hod rfl ?_);rw[if_neg (by simp)];refine wpAny_bind (wpAny_pure ?_);refine wpAny_bind (wpAny_dictEpoch hod rfl ?_);rw[if_neg (by simp)];refine wpAny_pure ?_;dsimp only;rw[if_neg (Ru.mpr (QE i)),RJ,hx];refine wpAny_bind ?_;refine wpAny_bind (wpAny_typeNameOfWhole_keyiter cE.typeIs (wpAny_pure ?_));refine(?_:wpAny _ _ (setField (.ref it) 0 .none>>=_) _ _ sh);refine wpAny_bind (wpAny_setField ho hd (by simp) ?_);exact jT (S:=S) hh λe h' hk q=>wpAny_bind (wpAny_isInstance (T:="StopIteration") (b:=true) q isSubtype_stop (wpAny_pure (hQ h' λb o n z=>hk b o ((Qo ..).extBut b o n z))))
theorem wO{it d:Addr}{i:Nat}{ds:Array DictEntry}{e:DictEntry}{ok ov:Value}{Q:Option Value->Shared->Prop}{Ex:Ec}(cE:IsItemIter sh.heap it d i ds.size ds.size ok ov)(hod:sh.heap.get? d=some {cls:=.type "dict",data:=.dict ds ds.size})(hx:ds[i]?=some e)
  (hQ:∀h',IsItemIterOut h' it d (i+1) ds.size ds.size e.key e.val sh.heap.objs.size->h'.get? sh.heap.objs.size=some {cls:=.type "tuple",data:=.seq #[e.key,e.val]}->
   (∀b o,b≠it->sh.heap.get? b=some o->h'.get? b=some o)->Q (some (.ref sh.heap.objs.size)) {sh with heap:=h'}):wpAny S.M A (pyNext (.ref it)) Q Ex sh:=by
 obtain⟨hp,gg,dr,tk,os⟩:=sh;obtain⟨hlt,hei⟩:=QV.mp hx;have hT:Shared.TypeIs ⟨hp,gg,dr,tk,os⟩ (.ref it) "dict_itemiterator":=ag _ cE rfl;refine wpAny_bind (wpAny_attempt (wpAny_callSpecial?_slot (name:=sj "__next__") hT RY
  (wpAny_call_entry RY hT F.entry_dict_itemiterator_next ?_ (F.args_dict_itemiterator_next_1 _))))
 refine wpAny_bind (wpAny_pure ?_);refine wpAny_bind ?_;refine wpAny_bind ?_;refine wpAny_bind (wpAny_typeNameOfWhole_itemiter hT (wpAny_pure ?_));refine wpAny_bind (wpAny_fieldsOf cE rfl ?_);refine wpAny_bind (wpAny_pure ?_);refine wpAny_bind (wpAny_dictEntries hod rfl ?_);rw[if_neg (by simp)];refine wpAny_bind (wpAny_pure ?_);refine wpAny_bind (wpAny_dictEpoch hod rfl ?_);rw[if_neg (by simp)];refine wpAny_pure ?_;dsimp only;rw[if_neg (Ru.mpr (QE i)),RJ,hx];refine wpAny_bind ?_;refine wpAny_bind (wpAny_typeNameOfWhole_itemiter hT (wpAny_pure ?_));refine wpAny_bind (wpAny_isOneOf_itemiter hT ?_);refine(?_:wpAny _ _ (setField (.ref it) 3 (rawInt ((i:Int)+1))>>=_) _ _ ⟨hp,gg,dr,tk,os⟩);refine wpAny_bind (wpAny_setField_rec cE (by simp) λh₁ he₁ hs₁=>?_);replace hs₁:P0 it hp h₁:=hs₁;replace he₁:IsItemIter h₁ it d (i+1) ds.size ds.size ok ov:=by have e:((i+1:Nat):Int)=(i:Int)+1:=rfl;unfold IsItemIter;rw[e];simpa [rawInt] using he₁
 have hT₁:Shared.TypeIs ⟨h₁,gg,dr,tk,os⟩ (.ref it) "dict_itemiterator":=ag _ he₁ rfl;refine wpAny_bind (wpAny_holding ?_);refine wpAny_bind (wpAny_isOneOf_itemiter hT₁ ?_);refine wpAny_bind (wpAny_isOneOf_itemiter hT₁ ?_);refine wpAny_bind (wpAny_newTuple ?_);have he₂:IsItemIter (h₁.push {cls:=.type "tuple",data:=.seq #[e.key,e.val]}) it d (i+1) ds.size ds.size ok ov:=PO _ he₁;generalize hh₂:h₁.push {cls:=.type "tuple",data:=.seq #[e.key,e.val]}=h₂ at he₂;have hz₁:h₁.objs.size=hp.objs.size:=hs₁.1;have hil:it<hp.objs.size:=Rk cE;have ht₂:h₂.get? hp.objs.size=some {cls:=.type "tuple",data:=.seq #[e.key,e.val]}:=by simp only[<-hh₂,<-hz₁];exact PQ _ rfl
 have hk₂:∀b o,b≠it->hp.get? b=some o->h₂.get? b=some o:=λb o hb e=>by rw[<-hh₂];exact PO _ (hs₁.extBut b o hb e)
 refine(?_:wpAny _ _ (Builtin.Dict_items.ownedTupleIsFree (.ref it)>>=_) _ _ ⟨h₂,gg,dr,tk,os⟩);refine hz₁.symm▸?_;refine wpAny_bind ?_;refine wpAny_bind (wpAny_field he₂ rfl (x:=.none) rfl (wpAny_pure ?_));refine wpAny_bind (wpAny_field he₂ rfl (x:=ok) rfl ?_);refine wpAny_bind (wpAny_field he₂ rfl (x:=ov) rfl ?_);refine wpAny_bind (wpAny_setField_rec he₂ (by simp) λh₃ he₃ hs₃=>?_);replace hs₃:P0 it h₂ h₃:=hs₃;replace he₃:IsItemIter h₃ it d (i+1) ds.size ds.size e.key ov:=he₃;refine wpAny_bind (wpAny_setField_rec he₃ (by simp) λh₄ he₄ hs₄=>?_);replace hs₄:P0 it h₃ h₄:=hs₄;replace he₄:IsItemIter h₄ it d (i+1) ds.size ds.size e.key e.val:=he₄;refine wpAny_bind (wpAny_setField_rec he₄ (by simp) λh₅ he₅ hs₅=>?_);replace hs₅:P0 it h₄ h₅:=hs₅;replace he₅:IsItemIterOut h₅ it d (i+1) ds.size ds.size e.key e.val hp.objs.size:=he₅;refine wpAny_bind (wpAny_setField_rec he₅ (by simp) λh₆ he₆ hs₆=>?_);replace hs₆:P0 it h₅ h₆:=hs₆;replace he₆:IsItemIterOut h₆ it d (i+1) ds.size ds.size e.key e.val hp.objs.size:=he₆;refine wpAny_bind (wpAny_letGo (wpAny_pure (wpAny_pure (ag _ rfl (wpAny_pure (hQ h₆ he₆ ?_ ?_))))))
 .exact hs₆.extBut _ _ (Nat.ne_of_gt hil) (hs₅.extBut _ _ (Nat.ne_of_gt hil) (hs₄.extBut _ _ (Nat.ne_of_gt hil) (hs₃.extBut _ _ (Nat.ne_of_gt hil) ht₂)))
 .exact λb o hb e=>hs₆.extBut b o hb (hs₅.extBut b o hb (hs₄.extBut b o hb (hs₃.extBut b o hb (hk₂ b o hb e))))
theorem zQ{it d:Addr}{i:Nat}{ds:Array DictEntry}{ok ov:Value}{Q:Option Value->Shared->Prop}{Ex:Ec}(hh:A.handled=none)(cE:IsItemIter sh.heap it d i ds.size ds.size ok ov)(hod:sh.heap.get? d=some {cls:=.type "dict",data:=.dict ds ds.size})(hx:ds[i]?=none)
  (hQ:∀h',Heap.ExtBut it sh.heap h'->Q none {sh with heap:=h'}):wpAny S.M A (pyNext (.ref it)) Q Ex sh:=by
 have hT:sh.TypeIs (.ref it) "dict_itemiterator":=ag _ cE rfl;refine wpAny_bind (wpAny_attempt (wpAny_callSpecial?_slot (name:=sj "__next__") hT RY
  (wpAny_call_entry RY hT F.entry_dict_itemiterator_next ?_ (F.args_dict_itemiterator_next_1 _))))
 refine wpAny_bind (wpAny_pure ?_);refine wpAny_bind ?_;refine wpAny_bind ?_;refine wpAny_bind (wpAny_typeNameOfWhole_itemiter hT (wpAny_pure ?_));refine wpAny_bind (wpAny_fieldsOf cE rfl ?_);refine wpAny_bind (wpAny_pure ?_);refine wpAny_bind (wpAny_dictEntries hod rfl ?_);rw[if_neg (by simp)];refine wpAny_bind (wpAny_pure ?_);refine wpAny_bind (wpAny_dictEpoch hod rfl ?_);rw[if_neg (by simp)];refine wpAny_pure ?_;dsimp only;rw[if_neg (Ru.mpr (QE i)),RJ,hx];refine wpAny_bind ?_;refine wpAny_bind (wpAny_typeNameOfWhole_itemiter hT (wpAny_pure ?_));refine(?_:wpAny _ _ (setField (.ref it) 2 .none>>=_) _ _ sh);refine wpAny_bind (wpAny_setField cE rfl (by simp) ?_);exact jT (S:=S) hh λe h' hk q=>wpAny_bind (wpAny_isInstance (T:="StopIteration") (b:=true) q isSubtype_stop (wpAny_pure (hQ h' λb o n z=>hk b o ((Qo ..).extBut b o n z))))
variable{a:Addr}{fp:List Addr}{F:List Addr}{it it':It}{v:V}{target:PE}{T1:Shared->Prop}{T2:Ec}{Ex E2:Ec}
theorem Br:fN target=true->∃es c p,target=.Tuple es c p:=λh=>by cases target<;>first|(exact ft h;done)|exact nJ _ _ _ rfl
theorem sP(ht:it.eB=true\/fN target=true)(h:it.eB=false):∃es c p,target=.Tuple es c p:=ht.elim (λe=>Qu (h.symm.trans e)) Br
theorem lu{l:Nat}{es:List (V×V)}{d:Addr}(r:aD S g s sh)(hg:g.ar[l]?=some d)(hl:s.get l=some (.dict es)):∃ds,sh.heap.get? d=some {cls:=.type "dict",data:=.dict ds ds.size}/\aC S g sh.heap (es.map (·.1)) ds.toList/\aI S g sh.heap (es.map (·.2)) (ds.toList.map (·.val))/\es.length=ds.size:=by refine aa (r.bc l d hg) λo z1 z2=>?_;rw[hl] at z1;obtain rfl:=PD z1;refine jA z2 λds nn z3 z4 z5 zz z6=>?_;obtain rfl:=z6;exact iH ds z3 z4 z5 (by have:=z4.length;simpa using this)
theorem mf(r:aD S g s sh){b la:Addr}{l:Nat}(w:jS S F g sh.heap b)(h:g.ar[l]?=some la):la≠b:=λe=>w.ar (e▸P7 h)
set_option tactic.hygienic true in
theorem q8{f:V×V->V×It}{d i m:Nat}{da:Addr}{res:Option (V×It)}(r:aD S g s sh)(h1:g.ar[d]?=some da)(hn:(match s.get d with
   |some (.dict es)=>match P8 (len es) m with
    |true=>match aZ es i with
     |some p=>some (some (f p))|.none=>some .none
    |false=>.none
   |_=>.none)=some res):∃ds,sh.heap.get? da=some {cls:=.type "dict",data:=.dict ds ds.size}/\m=ds.size/\((res=none/\ds[i]?=none)\/∃p e,res=some (f p)/\ds[i]?=some e/\VR S g sh.heap p.1 e.key/\VR S g sh.heap p.2 e.val):=by
 refine cJ (s.get d) (λhg=>?_) λo hg=>?_
 .rw[hg] at hn;exact ns hn
 .rw[hg] at hn;induction o<;>first|(exact ns hn;done)|skip
  rename_i es;refine dQ (lu r h1 hg) λds ho hk hv hlen=>?_;dsimp only at hn;refine cy (P8 (len es) m) (λz=>?_) λz=>?_
  .rw[z] at hn;exact ns hn
  .rw[z,bz] at hn;refine bk ds ho (((cD _ _).mp z).symm.trans ((aJ es).trans hlen)) ?_;refine cJ (es[i]?) (λhp=>?_) λp hp=>?_
   .rw[hp] at hn;exact .inl ⟨(PD hn).symm,Array.getElem?_eq_none_iff.mpr (hlen▸List.getElem?_eq_none_iff.mp hp)⟩
   .rw[hp] at hn;refine dQ (hk.at (i:=i) (k:=p.1) ((Qt ..).trans (congrArg _ hp))) λe e1 _ e2 _=>?_;refine aa (hv.get (i:=i) (v:=p.2) ((Qt ..).trans (congrArg _ hp))) λy y1 y2=>?_;obtain rfl:=PD (((Qt ..).trans (congrArg (Option.map (·.val)) e1)).symm.trans y1);exact .inr (cZ p e ((PD hn).symm) ((Qn ..).symm.trans e1) e2 y2)
theorem q9{f:V×V->V×It}{d i m:Nat}{da:Addr}(r:aD S g s sh)(h1:g.ar[d]?=some da)(hn:(match s.get d with
   |some (.dict es)=>match P8 (len es) m with
    |true=>match aZ es i with
     |some p=>some (some (f p))|.none=>some .none
    |false=>.none
   |_=>.none)=some (some (v,it'))):∃ds p e,(v,it')=f p/\sh.heap.get? da=some {cls:=.type "dict",data:=.dict ds ds.size}/\m=ds.size/\ds[i]?=some e/\VR S g sh.heap p.1 e.key/\VR S g sh.heap p.2 e.val:=by
 obtain⟨ds,ho,h,⟨e,_⟩|⟨p,e,z,q⟩⟩:=q8 r h1 hn
 .exact sn e
 .exact qL ds p e (PD z) ho h q
theorem uO{z:Addr}{o:Obj}(h:sh.heap.get? z=some o):sh.heap.objs.size≠z:=λe=>absurd (Rk (e▸h)) (RP _)
theorem uP{i:Nat}{b:Addr}{x:Value}{v0:V}{h1 h2:Heap}{tk:Nat}{oe:Obj}(he0:sh.heap.get? a=some oe)(r:aD S g s sh)(w:bC S F g sh.heap [a,b])(hbe:a≠b)(qx:VR S g sh.heap v0 x)(live1:∃o,h1.get? b=some o)(htu:h1.get? sh.heap.objs.size=some {cls:=.type "tuple",data:=.seq #[.int i tk,x]})
  (hk1:∀z o,z≠a->z≠b->sh.heap.get? z=some o->h1.get? z=some o) (hit2:∃o,h2.get? a=some o) (hs2:P0 a h1 h2):
  eY [a,b] sh.heap h2/\(∀z∈[a,b],∃o,h2.get? z=some o)/\aG S [a,b] g sh.heap g h2/\VR S g h2 (.av [.int i,v0]) (.ref sh.heap.objs.size):=by
 refine PW live1 λob hob=>?_;have hb2:=hs2.extBut _ _ hbe.symm hob;have kk:eY [a,b] sh.heap h2:=λz o hz e=>hs2.extBut z o (λy=>hz (y▸PJ)) (hk1 z o (λy=>hz (y▸PJ)) (λy=>hz (y▸PL _ PJ)) e);have live:∀z∈[a,b],∃o,h2.get? z=some o:=λz hz=>(PU.mp hz).elim (λe=>e▸hit2) λhz=>PI.mp hz▸⟨ob,hb2⟩;have hz0:=(gY (tk:=sh.toks) r w kk live);exact⟨kk,live,hz0.1,_,_,rfl,⟨_,hs2.extBut _ _ (uO he0) htu,rfl,0,rfl⟩,aI.cons VR.mkInt (aI.fU (qx.ext hz0.1))⟩
theorem rb{j:It}{k:Int}{res:Option (V×It)}(hn:next (.hI j k) s=some res):(res=none/\next j s=some none)\/∃v0 it0,res=some (.av [.int k,v0],.hI it0 (k+1))/\next j s=some (some (v0,it0)):=by
 change (match next j s with
   |some (some (v,it'))=>some (some (V.av [.int k,v],It.hI it' (k+1)))|some .none=>some .none|.none=>.none)=_ at hn
 cases z:next j s with
 |none=>rw[z] at hn;exact ns hn|some q=>
  rw[z] at hn;clear z j;induction q with
  |none=>exact .inl ⟨(PD hn).symm,rfl⟩|some p=>exact .inr (bW p.1 p.2 ((PD hn).symm) rfl)
theorem rg{j:It}{k:Int}(hn:next (.hI j k) s=some (some (v,it'))):∃v0 it0,v=.av [.int k,v0]/\it'=.hI it0 (k+1)/\next j s=some (some (v0,it0)):=by
 obtain⟨e,_⟩|⟨v0,it0,e,q⟩:=rb hn
 .exact sn e
 .clear hn;obtain⟨rfl,rfl⟩:=RW (PD e);exact⟨v0,it0,rfl,rfl,q⟩
theorem rh{j:It}{k:Int}(hn:next (.hI j k) s=some none):next j s=some none:=(rb hn).elim (·.2) λhq0=>a8 hq0 λzz zz e zz=>ns e
theorem ri(hh:A.handled=none)(r:aD S g s sh)(q:kO S g sh.heap it a fp)(w:bC S F g sh.heap fp)(ht:it.eB=true\/fN target=true)(hn:next it s=some (some (v,it')))
  (k:∀y h' tk,eY fp sh.heap h'->(∀z∈fp,∃o,h'.get? z=some o)->kO S g h' it' a fp->VR S g h' v y->T2 y {sh with heap:=h',toks:=tk}):
  wpAny S.M A (pyNext (.ref a)) (λr s₁=>match r with|none=>T1 s₁|some v=>wpAny S.M A (letOwnedTupleGo target (.ref a) v) (λzz s₁'=>T2 v s₁') E2 s₁) Ex sh:=by
 induction q with
 |list h1 h2=>exact er r (.list h1 h2) w rfl (λzz zz zz=>nofun) hn k|av h1 h2 h3=>exact er r (.av h1 h2 h3) w rfl (λzz zz zz=>nofun) hn k|str h1 h2 h3=>exact er r (.str h1 h2 h3) w rfl (λzz zz zz=>nofun) hn k|range h1 h2=>exact er r (.range h1 h2) w rfl (λzz zz zz=>nofun) hn k|@fV d i m a da h1 h2=>refine qK (q9 (f:=λp=>(p.1,It.fV d (i+1) m)) r h1 hn) λds p e z ho z5 he q1 zz=>?_;obtain rfl:=z5;obtain⟨rfl,rfl⟩:=RW z;refine zP h2 ho he λh' hit' hs'=>?_;refine aO (id hit') λo' ho' hc' zz=>?_;exact gZ (tk:=sh.toks) (P:=T2 _) r w ho' hc' (by decide+kernel) hs' λe1 kk live=>k _ h' sh.toks kk live (.fV h1 hit') (q1.ext e1)
 |@items d i m a da ok ov h1 h2=>refine AK (sP ht rfl) λzz zz zz z3=>?_;refine z3▸?_;refine qK (q9 (f:=λp=>(V.av [p.1,p.2],It.items d (i+1) m)) r h1 hn) λds p e z ho z5 he q1 q2=>?_;obtain rfl:=z5;obtain⟨rfl,rfl⟩:=RW z;refine wO h2 ho he λh1' hit' htu hk1'=>wpAny_letOwnedTupleGo_items hit' λh2' hit2 hs2=>?_;have kk:eY [a] sh.heap h2':=λb o hb e=>hs2.extBut b o (λz=>hb (PI.mpr z)) (hk1' b o (λz=>hb (PI.mpr z)) e);have live:∀z∈[a],∃o,h2'.get? z=some o:=λz hz=>PI.mp hz▸⟨_,hit2⟩;have e1:=(gY (tk:=sh.toks) r w kk live).1;exact k _ h2' sh.toks kk live (.items h1 hit2) (bQ _ _ rfl ⟨_,hs2.extBut _ _ (uO h2) htu,rfl,0,rfl⟩ (aI.cons (q1.ext e1) (aI.fU (q2.ext e1))))
 |@jE l i _ b la old h1 h2 h3 h4=>obtain⟨_,_,_,rfl⟩:=sP ht rfl;refine aw (rg hn) λv0 it0 z2 z3 hn0=>?_;obtain rfl:=z2;obtain rfl:=z3;refine bK (qY r h1 hn0) λxs x0 hl z3 hx qx=>?_;obtain rfl:=z3;refine wpAny_pyNext_enum_itemD (Draws.list (A:=A.in1) hh _ _ (mf r (w _ (PL _ PJ)) h1) xs) h3 ⟨h2,hl⟩ (QV.mp hx).1 h4 (λm=>(PU.mp m).elim h4 λz=>mf r (w _ PJ) h1 (PI.mp z).symm) λx h1' tk px hout st htu zz hk1'=>?_;obtain rfl:=PD (hx.symm.trans px);refine wpAny_letOwnedTupleGo_enum (s:={sh with heap:=h1',toks:=tk+1}) hout λh2' hit2 hs2=>?_;refine aa st.1 λob hob hob2=>?_;refine Lk (uP h3 r w h4 qx ⟨ob,hob⟩ htu hk1' ⟨_,hit2⟩ hs2) λkk live zz q=>?_;exact k _ h2' (tk+1) kk live (.jE h1 (ag ob (hs2.extBut _ _ h4.symm hob) hob2) hit2 h4) q
 |@jF vs t xs i _ b old h1 h2 h3 h4 h5 h6=>
  refine AK (sP ht rfl) λzz zz zz z3=>?_;refine z3▸?_;refine aw (rg hn) λv0 it0 z2 z3 hn0=>?_;clear hn ht h6;obtain rfl:=z2;obtain rfl:=z3;refine bK (uM h3 hn0) λvs' x0 z2 hx q1 q2=>?_;clear hn0 z3;obtain rfl:=z2;have nt:∀ {z},jS S F g sh.heap z->t≠z:=λ {z} q e=>by refine aw q.bc λo vs y1 y2 zz=>?_;obtain⟨o',y3,_,_,y4⟩:=h1;clear left;obtain rfl:=PD (y1.symm.trans (e▸y3));exact nomatch y2.symm.trans y4
  refine wpAny_pyNext_enum_itemD (oa (A:=A.in1) hh _ _ (nt (w _ (PL _ PJ))) xs) h4 ⟨h2,h1⟩ (QV.mp hx).1 h5 (λm=>(PU.mp m).elim h5 λz=>nt (w _ PJ) (PI.mp z).symm) λx h1' tk px hout st htu zz hk1'=>?_;obtain rfl:=PD (hx.symm.trans px);refine wpAny_letOwnedTupleGo_enum (s:={sh with heap:=h1',toks:=tk+1}) hout λh2' hit2 hs2=>?_;refine aa st.1 λob hob hob2=>?_;refine Lk (uP h4 r w h5 q1 ⟨ob,hob⟩ htu hk1' ⟨_,hit2⟩ hs2) λkk live e1 q=>?_;exact k _ h2' (tk+1) kk live (.jF (e1.kc h1) (ag ob (hs2.extBut _ _ h5.symm hob) hob2) (q2.ext e1) hit2 h5 (QV.mp hx).1) q
theorem eY.Jl{x y:Addr}(hs:Heap.ExtBut y h h'):eY [x,y] h h':=λb o hb e=>hs b o (λz=>hb (by simp[z])) e
theorem rj{f:V×V->V×It}{d i m:Nat}{da:Addr}(r:aD S g s sh)(h1:g.ar[d]?=some da)(hn:(match s.get d with
   |some (.dict es)=>match P8 (len es) m with
    |true=>match aZ es i with
     |some p=>some (some (f p))|.none=>some .none
    |false=>.none
   |_=>.none)=some none):∃ds,sh.heap.get? da=some {cls:=.type "dict",data:=.dict ds ds.size}/\m=ds.size/\ds[i]?=none:=by
 obtain⟨ds,ho,h,⟨_,e⟩|⟨_,_,z,_⟩⟩:=q8 r h1 hn
 .exact bk ds ho h e
 .exact ns z
theorem rm(hh:A.handled=none)(r:aD S g s sh)(q:kO S g sh.heap it a fp)(w:bC S F g sh.heap fp)(hn:next it s=some none)
  (k:∀h' tk,eY fp sh.heap h'->T1 {sh with heap:=h',toks:=tk}) {T3:Ec}:
  wpAny S.M A (pyNext (.ref a)) (λr s₁=>match r with|none=>T1 s₁|some v=>T3 v s₁) Ex sh:=by
 induction q with
 |@list l i a la h1 h2=>refine aa (qZ r h1 hn) λxs hl hx=>?_;exact wpAny_pyNext_list_end hh h2 hl hx λh' he=>k h' sh.toks (eY.GL he)
 |@av vs a t xs i h1 h2 h3=>exact wpAny_pyNext_tuple_end hh h2 h1 (uN h3 hn) λh' he=>k h' sh.toks (eY.GL he)|@str x y a t i ty h1 h2 h3=>
  have hx:=(uL h3 hn).elim (·.2) λhq0=>a8 hq0 λzz zz e zz=>ns e;rcases h1 with rfl|rfl
  .exact wpAny_pyNext_ascii_end hh h2 hx λh' he=>k h' sh.toks (eY.GL he)
  .exact wpAny_pyNext_wide_end hh h2 hx λh' he=>k h' sh.toks (eY.GL he)
 |@range i stop a left h1 h2=>have hx:=(og hn).elim (·.2) λhq0=>dw hq0 λe zz=>ns e;exact wpAny_pyNext_range_end hh h1 (Int.le_of_eq (h2.trans (Int.max_eq_left (Int.sub_nonpos_of_le (Ru.mp hx))))) λh' he=>k h' sh.toks (eY.GL he)
 |@fV d i m a da h1 h2=>refine aO (rj (f:=λp=>(p.1,It.fV d (i+1) m)) r h1 hn) λds ho z2 hx=>?_;obtain rfl:=z2;exact Bq hh h2 ho hx λh' he=>k h' sh.toks (eY.GL he)
 |@items d i m a da ok ov h1 h2=>refine aO (rj (f:=λp=>(V.av [p.1,p.2],It.items d (i+1) m)) r h1 hn) λds ho z2 hx=>?_;obtain rfl:=z2;exact zQ hh h2 ho hx λh' he=>k h' sh.toks (eY.GL he)
 |@jE l i _ b la old h1 h2 h3 h4=>refine aa (qZ r h1 (rh hn)) λxs hl hx=>?_;exact wpAny_pyNext_enum_end hh h3 h2 hl hx λh' he=>k h' sh.toks (eY.Jl he)
 |@jF vs t xs i _ b old h1 h2 h3 h4 h5 h6=>
  have nt:t≠b:=λe=>by refine aw ((w _ (PL _ PJ)).bc) λo vs y1 y2 zz=>?_;obtain⟨o',y3,_,_,y4⟩:=h1;clear left w;obtain rfl:=PD (y1.symm.trans (e▸y3));exact nomatch y2.symm.trans y4
  obtain rfl:=Nat.le_antisymm h6 (Array.getElem?_eq_none_iff.mp (uN h3 (rh hn)));exact wpAny_pyNext_enum_endD (oa (A:=A.in1) hh _ _ nt xs) h4 ⟨h2,h1⟩ λh' he=>k h' sh.toks (eY.Jl he)
noncomputable def VI (S:SI) (F:List Addr) (h0:Heap):Gh->Heap->It->Value->Prop:=λg h b y=>∃a fp,y=.ref a/\kO S g h b a fp/\bC S F g h fp/\∀z∈fp,h0.get? z=none
noncomputable def m8 (pe:PE) (env:PM):Sem Value:=eval pe env>>=λx=>foldedSetIterable pe env x>>=λx=>standAt pe.pos>>=λzz=>holding [x] (pyIter x)
noncomputable def zR (S:SI) (hN:Bool) (n:Nat) (sc:Sc) (ctx:Ctx) (c:Code It) (pe:PE):Prop:=
 ∀A g s sh lo env,bX S hN n sc A g s sh lo env->W S [] A (VI S (FX env) sh.heap) (m8 pe env) g sh (c ctx lo s)
theorem uQ(target iter:PE)(body orelse:List Stmt)(pos:Pos)(env:PM):exec (.For target iter body orelse pos) env=(standAt pos>>=λzz=>m8 iter env>>=λit=>runOwn (.forLoop target it body orelse env) env):=by unfold m8;simp only[bind_assoc];rfl
theorem zS(t:TC)(b o:SC)(c:Ctx)(it:It)(lo:Lo)(s:St):Mp.s.iT t b o c 0 it lo s=.no 0:=rfl
theorem zT(t:TC)(b o:SC)(c:Ctx)(k:Nat)(it:It)(lo:Lo)(s:St):Mp.s.iT t b o c (k+1) it lo s=match next it s with
 |some (some (v,it'))=>(t v c lo s).bind λlo s=>(b c lo s).bind λr s=>match r.1 with
  |.next=>Mp.s.iT t b o c k it' r.2 s|.cont=>Mp.s.iT t b o c k it' r.2 s|.brk=>.ok (.next,r.2) s|.ret v=>.ok (.ret v,r.2) s
 |some .none=>o c lo s|.none=>.no 130:=rfl
theorem jS.Bs{F F':List Addr}{a:Addr}(q:jS S F g h a)(hf:∀x∈F',x∈F):jS S F' g h a:=⟨q.ar,q.bH,λm=>q.fx (hf a m),q.new,q.bc⟩
theorem aG.L2(e:aG S X g h g' h')(Y:List Addr):aG S (X++Y) g h g' h':=e.eg λx m=>.inl (QW _ m)
theorem aG.Jm(e:aG S Y g h g' h')(X:List Addr):aG S (X++Y) g h g' h':=e.eg λx m=>.inl (Rj _ m)
theorem bC.up{F fp:List Addr}(w:bC S F g h fp)(hk:eY fp h h'):Up g h g h':=⟨Q2 _,λzz x=>x,λa o q i=>hk a o (λm=>(w a m).n7 o q i) q,λc o m q=>hk c o (λz=>(w c z).bH m) q⟩
theorem bX.kA{fp:List Addr}{lo:Lo}{env:PM}{tk:Nat}(p:bX S hN n sc A g s sh lo env)(w:bC S (FX env) g sh.heap fp)(hk:eY fp sh.heap h'):bX S hN n sc A g s {sh with heap:=h',toks:=tk} lo env:=by
 have e:=w.up hk;have r':aD S g s {sh with heap:=h',toks:=tk}:=p.r.jw (λa o x y=>hk a o y x) (λz hz=>(w z hz).bH) (λz hz=>(w z hz).ar) (λz hz=>(w z hz).n7) (λz hz=>(w z hz).new);have notfp:∀c,c∈FX env->c∉fp:=λc hc m=>(w c m).fx hc;have keep:=λc o hc ho=>hk c o (notfp c hc) ho;have cellK:∀ {c v},c∈env.cells.map (·.2)->sh.heap.IsCell c v->h'.IsCell c v:=λ {c v} hc ⟨o,h1,h2⟩=>ag o (keep c o (PL _ hc) h1) h2;refine aa p.l λm hm hv=>?_;have hm':h'.Ns env.locals m:=by refine fY hm λo es ep q1 q2=>?_;exact lU o es ep (keep _ o PJ q1) q2
 refine⟨⟨p.a.depth,p.a.units,p.a.hd,p.a.gd,?_⟩,p.gu,p.vW,p.DM,p.sc,⟨p.e.kind,p.e.globals,p.e.builtins,gy hm',p.e.qN,p.e.jM,p.e.inj,(by
  refine aa p.e.sq λo1 k1 k2=>?_;exact ag o1 (keep _ o1 PJ k1) k2),λc hc=>?_⟩,r',m,hm',λx v q=>?_⟩
 .refine aO p.a.fr λl h1 h2 h3=>?_;refine bk l h1 ?_ (λen m L hL=>?_);rotate_left
  .obtain⟨k1,o,es,k,k2,k3,k4⟩:=h3 en m L hL;refine⟨k1,o,es,k,hk L o (λmm=>?_) k2,k3,k4⟩;refine aw ((w L mm).bc) λo' vs y1 y2 zz=>?_;rw[k2] at y1;injection y1 with y1;subst y1;replace y2:=k4.symm.trans y2;cases y2
  exact FunFrames.map (λL o k3 k4 k5=>⟨o,hk L o (λm=>aw ((w L m).bc) λo' vs y1 y2 zz=>k5 vs (PD (y1.symm.trans k4)▸y2)) k4,k5⟩) h2
 .obtain⟨h1,h2,v,h3⟩:=p.e.cells c hc;exact⟨h1,h2,v,cellK hc h3⟩
 .refine dw (hv x v q) λh1 h2=>?_;refine⟨h1,?_⟩;split at h2
  .refine aa h2 λu k1 k2=>?_;exact ag u k1 (k2.up e)
  .obtain⟨c,u,k1,k2,k3⟩:=h2;exact⟨c,u,k1,cellK (aQ k1) k2,k3.up e⟩
  .obtain⟨c,u,k1,k2,k3⟩:=h2;exact⟨c,u,k1,cellK (aQ k1) k2,k3.up e⟩
  .trivial
theorem bC.ext{F fp:List Addr}(w:bC S F g sh.heap fp)(r:aD S g s sh)(e:aG S F g sh.heap g' sh'.heap):bC S F g' sh'.heap fp:=λa m=>(w a m).ext r e
theorem aG.L4{F fp:List Addr}{g1 g2:Gh}{h1 h2 h0:Heap}(e1:aG S F g h0 g1 h1)(e2:aG S (F++fp) g1 h1 g2 h2)(hd:∀z∈fp,h0.get? z=none):aG S F g h0 g2 h2:=
 ((e1.L2 fp).trans e2).eg λx m=>by
  rcases QO.mp m with m|m
  .exact .inl m
  .exact .inr (hd x m)
theorem kO.objs{it:It}{a:Addr}{fp:List Addr}(q:kO S g h it a fp):∀z∈fp,∃o vs,h.get? z=some o/\o.data=.fields vs/\o.cls≠ .type "frame":=by
 have fU:∀ {x:Addr} {o:Obj} {vs:Array Value} {ty:String},h.get? x=some o->o.cls=.type ty->(ty=="frame")=false->o.data=.fields vs->∃o vs,h.get? x=some o/\o.data=.fields vs/\o.cls≠ .type "frame":=by intro x o vs ty h1 h2 h3 h4;refine bQ o vs h1 h4 (λz=>?_);rw[h2] at z;injection z with z;rw[z] at h3;exact absurd h3 (by decide)
 intro z hz;induction q with
 |list h1 h2=>obtain⟨o,q1,q2,q3⟩:=h2;refine(PI.mp hz).symm▸?_;exact fU q1 q2 (by decide) q3
 |av h1 h2 h3=>obtain⟨o,q1,q2,q3⟩:=h2;refine(PI.mp hz).symm▸?_;exact fU q1 q2 (by decide) q3
 |str h1 h2 h3=>obtain⟨o,q1,q2,q3⟩:=h2;refine(PI.mp hz).symm▸?_;rcases h1 with rfl|rfl<;>exact fU q1 q2 (by decide) q3
 |range h1 h2=>refine(PI.mp hz).symm▸?_;exact fU h1 rfl (by decide) rfl|fV h1 h2=>obtain⟨o,q1,q2,q3⟩:=h2;refine(PI.mp hz).symm▸?_;exact fU q1 q2 (by decide) q3
 |items h1 h2=>refine(PI.mp hz).symm▸?_;exact fU h2 rfl (by decide) rfl|jE h1 h2 h3 h4=>
  refine PW h2 λo hz0=>?_;rcases PU.mp hz with rfl|hz
  .exact fU h3 rfl (by decide) rfl
  .refine(PI.mp hz).symm▸?_;exact fU hz0.1 hz0.2.1 (by decide) hz0.2.2
 |jF h1 h2 h3 h4 h5 h6=>
  refine PW h2 λo hz00=>?_;clear h5 h6 h3 h1;rcases PU.mp hz with rfl|hz
  .exact fU h4 rfl (by decide) rfl
  .refine(PI.mp hz).symm▸?_;exact fU hz00.1 hz00.2.1 (by decide) hz00.2.2
theorem rn{it it':It}{v:V}(hn:next it s=some (some (v,it'))):it'.eB=it.eB:=by
 induction it with
 |list l i=>
  simp only[qW] at hn;split at hn
  .split at hn
   .obtain⟨rfl,rfl⟩:=F8 hn;rfl
   .cases hn
  .exact ns hn
 |av vs=>cases vs with
  |nil=>cases hn
  |cons _ _=>obtain⟨rfl,rfl⟩:=F8 hn;rfl
 |str x=>cases x with
  |nil=>cases hn
  |cons _ _=>obtain⟨rfl,rfl⟩:=F8 hn;rfl
 |range i m=>
  change (match gM i m with|true=>some (some (V.int i,It.range (i+1) m))|false=>some none)=_ at hn;split at hn
  .obtain⟨rfl,rfl⟩:=F8 hn;rfl
  .cases hn
 |fV d i m=>
  change (match s.get d with
   |some (.dict es)=>match P8 (len es) m with
    |true=>match aZ es i with
     |some p=>some (some (p.1,It.fV d (i+1) m))|.none=>some .none
    |false=>.none
   |_=>.none)=_ at hn
  split at hn
  .split at hn
   .split at hn
    .obtain⟨rfl,rfl⟩:=F8 hn;rfl
    .cases hn
   .exact ns hn
  .exact ns hn
 |items d i m=>
  change (match s.get d with
   |some (.dict es)=>match P8 (len es) m with
    |true=>match aZ es i with
     |some p=>some (some (V.av [p.1,p.2],It.items d (i+1) m))|.none=>some .none
    |false=>.none
   |_=>.none)=_ at hn
  split at hn
  .split at hn
   .split at hn
    .obtain⟨rfl,rfl⟩:=F8 hn;rfl
    .cases hn
   .exact ns hn
  .exact ns hn
 |hI it k=>
  change (match next it s with
   |some (some (v,it'))=>some (some (V.av [.int k,v],It.hI it' (k+1)))|some .none=>some .none|.none=>.none)=_ at hn
  split at hn
  .obtain⟨rfl,rfl⟩:=F8 hn;rfl
  .cases hn
  .exact ns hn
theorem Jn{t:TC}{e:Code It}{b o:SC}{te ie:PE}{be oe:List Stmt}{pos:Pos}(ht:fN te=true\/∀c lo s it s',e c lo s=.ok it s'->it.eB=true)(wi:zR S true n sc ctx e ie)(wt:nZ S true n sc ctx t te)(wb:iM S true n sc ctx b be)(wo:iM S true n sc ctx o oe):
  fe S true n sc ctx (Mp.s.ba t e b o) (.For te ie be oe pos):=λA g s sh lo env p=>by
 rw[uQ];refine(?_:W S (FX env) A (VS S env) _ g sh ((e ctx lo s).bind λit s=>bb (Mp.s.iT t b o ctx ctx.n it lo s)));have w:=wi A g s sh lo env p;cases he:e ctx lo s with
 |no k=>trivial|ez k s1=>simp only[he] at w;exact λhh Q Ex hq=>wpAny_bind (wpAny_standAt (wpAny_bind (w hh _ Ex λg' sh' x a b c=>hq g' sh' x a.nil b c)))
 |ok it0 s1=>
 simp only[he] at w;refine W.Bm λbF sF hF Q Ex kq=>wpAny_bind (wpAny_standAt (wpAny_bind (w _ Ex λg1 sh1 y e1 r1 q1=>?_)));refine bK q1 λa fp z2 qi wo1 hd=>?_;refine z2▸?_;have p1:=p.step e1 r1;have hh:A.handled=none:=p.a.hd rfl;have hfl:fN te=true\/it0.eB=true:=by
  refine QK ht (λh=>?_) λh=>?_
  .exact .inl h
  .exact .inr (h _ _ _ _ _ he)
 refine wpAny_runOwn ?_;refine codeAny_forLoop_any (A:=A) (λk sh2=>∃g2 s2 lo2 it2,aG S (FX env) g sh.heap g2 sh2.heap/\bX S true n sc A g2 s2 sh2 lo2 env/\kO S g2 sh2.heap it2 a fp/\bC S (FX env) g2 sh2.heap fp/\it2.eB=it0.eB/\Mp.s.iT t b o ctx k it2 lo2 s2=.ok bF sF) ?_ ctx.n (IH g1 s1 lo it0 e1.nil p1 qi wo1 rfl hF);rintro k sh2 hh0;refine Iw hh0 λg2 s2 lo2 it2 e2 p2 q2 w2 fl2 hk=>?_;clear hh0 p1 r1 hF w he wi ht;cases k with
 |zero=>simp only[zS] at hk;exact nomatch hk|succ k=>
  rw[zT] at hk;refine cJ (next it2 s2) (λhn=>?_) λres hn=>?_
  .rw[hn] at hk;exact kW hk
  .replace hk:=hn▸hk;induction res with
   |none=>have hk:o ctx lo2 s2=.ok bF sF:=hk;refine rm hh p2.r q2 w2 hn λh' tk kk=>?_;refine dw (qU (tk:=tk) e2 p2.r w2 kk hd) λe3 r3=>?_;have p3:=p2.kA (tk:=tk) w2 kk;refine(wo A g2 s2 {sh2 with heap:=h',toks:=tk} lo2 env p3).use hk _ _ λg3 sh3 f e4 r4 q4=>?_;exact kq g3 sh3 f (e3.trans e4) r4 q4
   |some vi=>
    obtain⟨v,it3⟩:=vi;have hk:(t v ctx lo2 s2).bind (λlo s=>(b ctx lo s).bind λr s=>match r.1 with
     |.next=>Mp.s.iT t b o ctx k it3 r.2 s|.cont=>Mp.s.iT t b o ctx k it3 r.2 s|.brk=>.ok (.next,r.2) s|.ret v=>.ok (.ret v,r.2) s)=.ok bF sF:=hk
    refine a8 (R.cj hk) λlo3 s3 ht3 hk=>?_;refine a8 (R.cj hk) λfl s4 hb4 hk=>?_;have hpair:it2.eB=true\/fN te=true:=by
     refine QK hfl (λh=>?_) λh=>?_
     .exact .inr h
     .exact .inl (fl2.trans h)
    refine ri hh p2.r q2 w2 hpair hn λy h' tk kk live q3 qv=>?_;obtain⟨e3,r3⟩:=gY (tk:=tk) p2.r w2 kk live;have p3:=p2.kA (tk:=tk) w2 kk;have e3':aG S (FX env) g sh.heap g2 h':=e2.L4 (e3.Jm (FX env)) hd;have w3:bC S (FX env) g2 h' fp:=λz hz=>by obtain⟨q1,q2',q3',q4,_⟩:=w2 z hz;exact⟨q1,q2',q3',q4,q3.objs z hz⟩
    refine(wt A g2 s2 {sh2 with heap:=h',toks:=tk} lo2 env v y p3 qv).use ht3 _ _ λg4 sh4 zz e4 r4 af=>?_;have p4:=p3.l5 e4 r4 af;have q4:=q3.ext (sh:={sh2 with heap:=h',toks:=tk}) w3 p3.r e4;have w4:=bC.ext (sh:={sh2 with heap:=h',toks:=tk}) w3 p3.r e4;refine(wb A g4 s3 sh4 lo3 env p4).use hb4 _ _ λg5 sh5 f e5 r5 q5=>?_;have ee:=(e3'.trans e4).trans e5;clear e4 w3 e3' p3 r3 e3 qv q3 live kk hpair hb4 w2 q2 p2 e2 hfl wo1 qi q1 e1 p wo wb wt;obtain⟨f0,lo5⟩:=fl;obtain⟨q5,af5⟩:=q5;have p5:=p4.l5 e5 r5 af5;have q6:=q4.ext w4 p4.r e5;have w6:=w4.ext p4.r e5;have fl3:it3.eB=it0.eB:=(rn hn).trans fl2;cases q5 with
    |next=>exact⟨k,P1 k,g5,s4,lo5,it3,ee,p5,q6,w6,fl3,hk⟩|cont=>exact⟨k,P1 k,g5,s4,lo5,it3,ee,p5,q6,w6,fl3,hk⟩|brk=>clear p5 e5 w4 q4 p4 af r4 hn fl2;injection hk with u v;subst u;cases v;exact kq g5 sh5 .next ee r5 ⟨.next,af5⟩
    |ret hv=>clear p5 e5 w4 q4 p4 af r4 hn fl2;injection hk with u v;subst u;cases v;exact kq g5 sh5 _ ee r5 ⟨.ret hv,af5⟩
noncomputable def i8:PE->Bool
 |.Set .. =>false|_=>true
theorem cH{pe:PE}(h:i8 pe=true)(env:PM)(x:Value):foldedSetIterable pe env x=P2 x:=by cases pe<;>first|rfl|exact ft h
theorem dj(h:Heap):h.get? h.objs.size=none:=Qf (P5 _)
theorem uR{F:List Addr}{ob:Obj}{vs:Array Value}(r:aD S g s sh)(hF:∀z∈F,∃o,sh.heap.get? z=some o)(hd:ob.data=.fields vs)(hc:ob.cls≠ .type "frame"):jS S F g (sh.heap.push ob) sh.heap.objs.size:=by
 have hf:ob.isFreed=false:=Obj.isFreed_of_fields hd;refine⟨qQ r,λm=>?_,λm=>?_,r.fresh (dj _),ob,vs,PQ _ hf,hd,hc⟩
 .refine aa (r.bH _ m) λo h1 zz=>?_;rw[dj] at h1;exact ns h1
 .obtain⟨o,h1⟩:=hF _ m;rw[dj] at h1;exact ns h1
theorem fB{env:PM}(w:iX S env g h):∀z∈FX env,∃o,h.get? z=some o:=λz m=>by
 rcases PU.mp m with rfl|m
 .refine aa w.here λo h1 zz=>?_;exact⟨o,h1⟩
 .obtain⟨_,_,v,o,h1,_⟩:=w.cells z m;exact⟨o,h1⟩
theorem uS{d:Addr}{ds:Array DictEntry}{Q:Ec}{Ex:Ec}(hd:(d==sysModules)=false)(ho:sh.heap.get? d=some {cls:=.type "dict",data:=.dict ds ds.size})
  (hQ:Q (.ref sh.heap.objs.size) {sh with heap:=sh.heap.push {cls:=.type "dict_keyiterator",data:=.fields #[.ref d,.int 0 0,.int ds.size 0,.int ds.size 0]}}):wpAny S.M A (pyIter (.ref d)) Q Ex sh:=by
 have hT:sh.TypeIs (.ref d) "dict":=ag _ ho rfl;refine wpAny_pyIter_slot hT F.slot_dict_iter (wpAny_call_entry F.slot_dict_iter hT F.entry_dict_iter ?_ (F.args_dict_iter_1 _));refine wpAny_bind ?_;refine wpAny_bind (wpAny_notOrdered_dict hT ?_);refine(?_:wpAny _ _ (pure (QH d)) _ _ sh);refine wpAny_pure ?_;refine(?_:wpAny _ _ (Builtin.Dict.showsAll d>>=_) _ _ sh);unfold Builtin.Dict.showsAll;refine(if_neg (hd▸R1)).symm▸?_;refine wpAny_bind (wpAny_pure ?_);refine wpAny_bind (wpAny_dictEntries ho rfl ?_);refine wpAny_bind (wpAny_dictEpoch ho rfl ?_);refine wpAny_bind (wpAny_newObj_type (wpAny_pure ⟨_,rfl,"dict_keyiterator",_,(ag _ (PQ _ rfl) rfl),Rv.lookup,?_⟩));simpa [rawInt] using hQ
set_option tactic.hygienic true in
theorem uT{v:V}{y:Value}{w':Nat}{F:List Addr}(r:aD S g s sh)(hF:∀z∈F,∃o,sh.heap.get? z=some o)(q:VR S g sh.heap v y):W S [] A (VI S F sh.heap) (pyIter y) g sh (gN w' (fJ v s) s):=by
 have dY:∀ {ob:Obj} {vs:Array Value} {it:It},ob.data=.fields vs->ob.cls≠ .type "frame"->kO S g (sh.heap.push ob) it sh.heap.objs.size [sh.heap.objs.size]->
   (∀(Q:Ec) (Ex:Ec),Q (.ref sh.heap.objs.size) {sh with heap:=sh.heap.push ob}->wpAny S.M A (pyIter y) Q Ex sh)->W S [] A (VI S F sh.heap) (pyIter y) g sh (.ok it s):=by
  intro ob vs it h1 h2 h3 rule Q Ex k;refine rule Q Ex (k g {sh with heap:=sh.heap.push ob} _ (aG.push _) (r.push (tk:=sh.toks) _) (cZ _ _ rfl h3 (λz hz=>?_) (λz hz=>?_)))
  .simp only[PI.mp hz];exact uR r hF h1 h2
  .exact(PI.mp hz)▸dj _
 have ng:∀ {ty:String},(ty=="frame")=false->(Value.type ty)≠ .type "frame":=λh e=>by injection e with e;rw[e] at h;exact absurd h (by decide)
 refine W.lW λit cE=>?_;cases v with
 |av vs=>
  injection cE with cE;cases cE;refine aw q.cG λt xs z2 ht qs=>?_;obtain rfl:=z2;refine dY rfl (ng (by decide)) (.av (i:=0) (aG.push (S:=S) (X:=[]) (g:=g) _|>.kc ht) (bk _ (PQ _ rfl) rfl rfl) ?_) λQ Ex k=>wpAny_pyIter_tuple ht k
  skip;exact qs.ext (aG.push (X:=[]) _)
 |str x=>
  injection cE with cE;subst cE;refine PW q.bG λt z1=>?_;obtain rfl:=z1;refine dY (ob:={cls:=.type (strIterType (ak x)),data:=.fields #[.str (ak x) t,.int 0 0]}) rfl ?_ (.str (y:=x) (i:=0) (ty:=strIterType (ak x)) ?_ (bk _ (PQ _ rfl) rfl rfl) rfl) λQ Ex k=>wpAny_pyIter_strU k
  .unfold strIterType;split<;>exact ng (by decide)
  .unfold strIterType;split
   .exact .inl rfl
   .exact .inr rfl
 |ar l=>
  change (match s.get l with
   |some (.list _)=>some (It.list l 0)|some (.dict es)=>some (It.fV l 0 (len es))|_=>none)=some it at cE
  split at cE
  .rename_i vs hvs;injection cE with cE;subst cE;refine bK (cg r q hvs) λa xs z2 h1 hl qs=>?_;obtain rfl:=z2;exact dY rfl (ng (by decide)) (.list h1 (bk _ (PQ _ rfl) rfl rfl)) λQ Ex k=>wpAny_pyIter_list hl k
  .rename_i es hes;injection cE with cE;subst cE;refine aa q λd h1 z2=>?_;clear q hF w';obtain rfl:=z2;refine dQ (lu r h1 hes) λds ho _ _ hlen=>?_;rw[aJ,hlen];exact dY rfl (ng (by decide)) (.fV h1 (bk _ (PQ _ rfl) rfl rfl)) λQ Ex k=>uS (ig r h1) ho k
  .exact ns cE
 |_=>exact ns cE
theorem W.sQ{V2:Gh->Heap->β->α->Prop}{t:Sem α}{r:R β}(w:W S X A V1 t g sh r)(k:∀g' h' b a,V1 g' h' b a->V2 g' h' b a):W S X A V2 t g sh r:=by
 induction r with
 |no n=>trivial|ez n s'=>exact w|ok b s1=>exact λQ Ex hq=>w Q Ex λg' sh' a h1 h2 h3=>hq g' sh' a h1 h2 (k _ _ _ _ h3)
theorem VI.sr{F:List Addr}{h0 h1:Heap}(hd:∀z,h1.get? z=none->h0.get? z=none){b:It}{y:Value}(q:VI S F h1 g h b y):VI S F h0 g h b y:=by refine bK q λa fp z2 q1 q2 q3=>?_;exact z2▸(cZ a fp rfl q1 q2 (λz m=>hd z (q3 z m)))
theorem m9(c:Code V)(lo:Lo)(s:St):gO [c] ctx lo s=(c ctx lo s).bind λv s=>.ok [v] s:=rfl
theorem mh{c:Code V}{pe:PE}(hs:i8 pe=true)(w:aF S hN n sc ctx c pe):zR S hN n sc ctx (j5 0 [c]) pe:=λA g s sh lo env p=>by
 have e0:j5 0 [c] ctx lo s=(c ctx lo s).bind λv s=>gN 55 (fJ v s) s:=by refine(?_:(gO [c] ctx lo s).bind _=_);rw[m9,R.bind_assoc];rfl
 simp only[e0];refine w.bind p λv s1 g1 sh1 y e1 p1 q1=>?_;rw[cH hs];refine W.rule (t:=standAt pe.pos>>=λzz=>holding [y] (pyIter y)) (W.aT (W.dW ?_)) λQ Ex k=>wpAny_bind (wpAny_pure k);exact(uT p1.r (fB p1.e) q1).sQ λg' h' b a q=>q.sr λz=>e1.dG
set_option tactic.hygienic true in
theorem uU{c:Code V}{ctx:Ctx}{lo:Lo}{s s':St}{it:It}(h:j5 0 [c] ctx lo s=.ok it s'):it.eB=true:=by
 have e0:j5 0 [c] ctx lo s=(c ctx lo s).bind λv s=>gN 55 (fJ v s) s:=by refine(?_:(gO [c] ctx lo s).bind _=_);rw[m9,R.bind_assoc];rfl
 replace h:=e0.symm.trans h;refine a8 (R.cj h) λv s1 h1 h2=>?_;refine cJ (fJ v s1) (λz=>?_) λit' z=>?_
 .replace h2:=z▸h2;exact kW h2
 .replace h2:=z▸h2;clear h1 h e0;cases h2;cases v<;>try (exact ns z;done)
  .injection z with z;subst z;rfl
  .injection z with z;subst z;rfl
  .rename_i l;change (match s'.get l with
    |some (.list _)=>some (It.list l 0)|some (.dict es)=>some (It.fV l 0 (len es))|_=>none)=some it at z
   split at z
   .injection z with z;subst z;rfl
   .injection z with z;subst z;rfl
   .exact ns z
theorem W.oh{α' β':Type}{V2:Gh->Heap->β'->α'->Prop}{t:Sem α}{f:α->Sem α'}{t':Sem α'}{r:R β}{k:β->St->R β'}(w:W S [] A V1 t g sh r)
  (rule:∀(Q:α'->Shared->Prop) (Ex:Ec),wpAny S.M A t (λa s'=>(∃g1 s1,aD S g1 s1 s')/\wpAny S.M A (f a) Q Ex s') Ex sh->wpAny S.M A t' Q Ex sh)
  (c:∀b s1 g1 sh1 a,r=.ok b s1->aG S [] g sh.heap g1 sh1.heap->aD S g1 s1 sh1->V1 g1 sh1.heap b a->W S X A V2 (f a) g1 sh1 (k b s1)):W S X A V2 t' g sh (r.bind k):=by
 induction r with
 |no n=>trivial|ez n s'=>exact λhh Q Ex hq=>rule Q Ex (w hh _ Ex λg' sh' e h1 h2 h3=>hq g' sh' e h1.nil h2 h3)|ok b s1=>
  refine(?_:W S X A V2 t' g sh (k b s1));have c':=λg1 sh1 a=>c b s1 g1 sh1 a rfl;revert c';cases k b s1 with
  |no n=>intro _;trivial|ez n s2=>intro c' hh Q Ex hq;exact rule Q Ex (w _ Ex λg1 sh1 a e1 r1 v1=>⟨(gb g1 s1 r1),c' g1 sh1 a e1 r1 v1 hh Q Ex λg2 sh2 e e2 r2 v2=>hq g2 sh2 e (e1.nil.trans e2) r2 (v2.sr λzz z=>e1.dG z)⟩)|ok b2 s2=>intro c' Q Ex hq;exact rule Q Ex (w _ Ex λg1 sh1 a e1 r1 v1=>⟨(gb g1 s1 r1),c' g1 sh1 a e1 r1 v1 Q Ex λg2 sh2 a2 e2 r2 v2=>hq g2 sh2 a2 (e1.nil.trans e2) r2 v2⟩)
theorem sR(r:aD S g s sh):sh.heap.Ns mainGlobals S.mg:=by refine fY r.ok.g λo es ep h1 h2=>?_;exact lU o es ep (r.base _ o h1 r.ok.gT) h2
theorem DW(r:aD S g s sh):sh.heap.Ns builtinsNs S.mb:=by refine fY r.ok.b λo es ep h1 h2=>?_;exact lU o es ep (r.base _ o h1 r.ok.bT) h2
noncomputable def SI.cQ (S:SI) (x:Str):Option Value:=match S.mg x with
 |some v=>some v|none=>S.mb x
theorem dm{x:Str}{pos:Pos}{v:Value}{lo:Lo}{env:PM}{Q:Ec}{Ex:Ec}(p:bX S hN n sc A g s sh lo env)(hk:sc.lookup x=some .globalImplicit)(hv:S.cQ x=some v)(hd:(x==("__debug__":Str))=false)(h:Q v sh):wpAny S.M A (eval (.Name x pos) env) Q Ex sh:=by
 refine Calls.Name_function_global p.e.kind ((p.sc x).2.1 hk) ?_ hd;unfold SI.cQ at hv;cases z:S.mg x with
 |some v'=>rw[z] at hv;injection hv with hv;subst hv;exact Calls.loadGlobal_global (by rw[p.e.globals];exact sR p.r) z h
 |none=>rw[z] at hv;exact Calls.loadGlobal_builtin (by rw[p.e.globals];exact sR p.r) z (by rw[p.e.builtins];exact DW p.r) hv h
noncomputable def wQ:(v:V)->(y:Value)->Ev (∀(S:SI) (g:Gh) (h:Heap),VR S g h v y)
 |.int i,.int j _=>(gd (i==j)).th λe=>.yes λzz zz zz=>by rw[<-eq_of_beq e];exact VR.mkInt
 |.str x,.str y _=>(gd (ak x==y)).th λe=>.yes λzz zz zz=>by rw[<-eq_of_beq e];exact VR.eE
 |_,_=>.no
noncomputable def js (v:V) (y:Value):Bool:=(wQ v y).ok
theorem wR{v:V}{y:Value}(h':js v y=true):VR S g h v y:=Ev.get h' S g h
theorem GN{P:G}{x:Nat}{y:Str}{pos:Pos}(hk:sc.lookup y=some .globalImplicit)(hd:(y==("__debug__":Str))=false)(hv:∀v,ao P.iQ x=some v->∃w,S.cQ y=some w/\js v w=true):aF S hN n sc ctx (e.cQ P x) (.Name y pos):=λA g s sh lo env p=>by refine W.lW λv hl=>?_;refine aa (hv v hl) λw h1 h2=>?_;exact λQ Ex k=>dm p hk h1 hd (k g sh _ .refl p.r (wR h2))
theorem bJ{f:Value}{cs:List (Code V)}{pes:List PE}{env:PM}{Q:Args->Shared->Prop}{Ex:Ec}(q:bM S hN n sc ctx cs pes)(h:wpAny S.M A (spliced (starEach pes env)) (λvs s'=>Q ⟨vs,[]⟩ s') Ex sh):wpAny S.M A (evalArgs f true (starEach pes env) []) Q Ex sh:=by
 induction q with
 |nil=>refine wpAny_bind (wpAny_mono h (λvs s' h'=>?_) λzz zz x=>x);refine wpAny_bind (wpAny_pure ?_);refine wpAny_holding ?_;exact wpAny_bind (wpAny_pure (wpAny_bind (wpAny_pure (wpAny_pure h'))))
 |cons _ _ hs _=>rw[eP hs] at h⊢;exact Calls.evalArgs_plain h
set_option backward.match.sparseCases true in
theorem oi{R:Result->Shared->Prop}{a:Addr}{o:Obj}{fd:FuncData}{body:List Stmt}{args:Args}{binds:List (Str×Value)}
  (hroom:A.depth<recursionLimit) (ho:sh.heap.get? a=some o) (hdata:o.data=.func fd) (hlim:sh.heap.NoLimit) (hcd:sh.heap.CodeRec fd.code fd.qualname)
  (hbody:fd.body=.stmts body) (hbind:BindsTo sh fd args binds) (hclo:fd.closure=[])
  (hkind:∀x∈binds,fd.scope.names.lookup x.1=some .local\/(fd.scope.names.lookup x.1=some .cell/\((cellsFrom (sh.heap.objs.size+1) fd.scope.names []).lookup x.1).isSome=true))
  (k:∀s₁,InCallC sh (callEnvC fd sh.heap.objs.size a).locals (bindL (callEnvC fd sh.heap.objs.size a).kindOf binds λzz=>none) (callEnvC fd sh.heap.objs.size a).cells
    (bindC (callEnvC fd sh.heap.objs.size a).kindOf binds λzz=>none) s₁->hZ s₁ (callEnvC fd sh.heap.objs.size a).locals->
   wpAny S.M (A.deeper (callEnvC fd sh.heap.objs.size a)) (execs body (callEnvC fd sh.heap.objs.size a)) (λf s'=>R (.ok (.ret (match f with|.ret v=>v|_=>.none))) s')
    (λe s'=>wpAny S.M (A.deeper (callEnvC fd sh.heap.objs.size a)) (leaving (callEnvC fd sh.heap.objs.size a) e) (λzz s''=>R (.error e) s'') (λe' s''=>R (.error e') s'') s') s₁)
  (hco:fd.scope.isCoroutine=false) (hgen:fd.scope.isGenerator=false) (hk:fd.scope.kind=.function):
  codeAny S.M A (.call (.ref a) args) R sh:=by
 refine codeAny_call_function hroom ho hdata hco hgen hbody hcd (hbind _ _ _ _ ?_);refine hclo.symm▸?_;refine DK hk hkind λenv he s' x fa=>?_;subst he;exact⟨hlim.keeps x.toInCall.keep,codeAny_func (k s' x fa)⟩
inductive BR (S:SI) (g:Gh) (h:Heap):Lo->List (Str×Value)->Prop
 |nil:BR S g h [] []|cons {x:Nat} {v:V} {y:Value} {lo:Lo} {bs:List (Str×Value)}:x<S.nm.length->VR S g h v y->BR S g h lo bs->BR S g h ((x,v)::lo) ((S.n x,y)::bs)
theorem BR.zip{ps:List Nat}{vs:List V}{ys:List Value}{lo:Lo}(hz:uc ps vs=some lo)(hp:∀x∈ps,x<S.nm.length)(q:aI S g h vs ys):BR S g h lo ((ps.map S.n).zip ys)/\lo.map (·.1)=ps:=by
 induction ps generalizing vs ys lo with
 |nil=>
  induction vs with
  |nil=>obtain rfl:=PD hz;exact⟨.nil,rfl⟩
  |cons _ _=>exact ns hz
 |cons p ps ih=>
  induction vs with
  |nil=>exact ns hz|cons v vs=>
   change (match uc ps vs with|some lo=>some ((p,v)::lo)|.none=>.none)=_ at hz;refine aw q.bI λy ys' z2 q1 q2=>?_;refine z2▸?_;refine cJ (uc ps vs) (λz=>?_) λlo' z=>?_
   .replace hz:=z▸hz;exact ns hz
   .rw[z] at hz;refine(PD hz)▸?_;refine dw (ih z (λx m=>hp x (PL _ m)) q2) λi1 i2=>?_;exact⟨.cons (hp p PJ) q1 i1,by simp[i2]⟩
theorem oj{kindOf:Str->Option NameKind}{x:Str}:∀ {bs:List (Str×Value)} {m:Str->Option Value},x∉bs.map (·.1)->bindL kindOf bs m x=m x
 |[],m,_=>rfl|(n,v)::bs,m,hx=>by
  refine(oj (λq=>hx (PL _ q))).trans ?_;have:x≠n:=λe=>hx (by simp only[e];exact PJ);split
  .simp[this]
  .rfl
theorem oq{kindOf:Str->Option NameKind}{x:Str}:∀ {bs:List (Str×Value)} {m:Str->Option Value},x∉bs.map (·.1)->bindC kindOf bs m x=m x
 |[],m,_=>rfl|(n,v)::bs,m,hx=>by
  refine(oq (λq=>hx (PL _ q))).trans ?_;have:x≠n:=λe=>hx (by simp only[e];exact PJ);split
  .rfl
  .simp[this]
theorem ro{kindOf:Str->Option NameKind}{x:Str}{y:Value}(hk:kindOf x=some .local):∀ {bs:List (Str×Value)} {m:Str->Option Value},(bs.map (·.1)).Nodup->(x,y)∈bs->bindL kindOf bs m x=some y
 |(n,v)::bs,m,hn,hm=>by
  simp only[Qe,Qv] at hn;refine(?_:bindL kindOf bs (if kindOf n=some .local then λy=>if y=n then some v else m y else m) x=_);rcases PU.mp hm with e|hm
  .injection e with u v;refine v▸?_;subst u;rw[oj hn.1,if_pos hk];simp
  .exact ro hk hn.2 hm
theorem lx{kindOf:Str->Option NameKind}{x:Str}{y:Value}(hk:kindOf x≠some .local):∀ {bs:List (Str×Value)} {m:Str->Option Value},(bs.map (·.1)).Nodup->(x,y)∈bs->bindC kindOf bs m x=some y
 |(n,v)::bs,m,hn,hm=>by
  simp only[Qe,Qv] at hn;refine(?_:bindC kindOf bs (if kindOf n=some .local then m else λy=>if y=n then some v else m y) x=_);rcases PU.mp hm with e|hm
  .injection e with u v;subst u;refine v▸?_;rw[oq hn.1,if_neg hk];simp
  .exact lx hk hn.2 hm
theorem BR.ao{lo:Lo}{bs:List (Str×Value)}(q:BR S g h lo bs){x:Nat}{v:V}(hl:ao lo x=some v):x<S.nm.length/\∃y,(S.n x,y)∈bs/\VR S g h v y:=by
 induction q with
 |nil=>exact ns hl|@cons z w y lo bs h1 h2 _ ih=>
  rw[cP] at hl;by_cases e:z=x
  .subst e;rw[if_pos rfl] at hl;exact(PD hl)▸⟨h1,y,PJ,h2⟩
  .rw[if_neg e] at hl;obtain⟨i1,y,i2,i3⟩:=ih hl;exact⟨i1,y,PL _ i2,i3⟩
theorem BR.Fy(hn:S.nm.Nodup){lo:Lo}{bs:List (Str×Value)}(q:BR S g h lo bs)(hd:(lo.map (·.1)).Nodup):(bs.map (·.1)).Nodup:=by
 induction q with
 |nil=>simp|@cons z w y lo bs h1 h2 q ih=>
  rw[Qe,Qv] at hd⊢;refine⟨λm=>hd.1 ?_,ih hd.2⟩;have go:∀ {lo:Lo} {bs:List (Str×Value)},BR S g h lo bs->S.n z∈bs.map (·.1)->z∈lo.map (·.1):=by
   intro lo bs q;induction q with
   |nil=>intro m;cases m
   |@cons z' w y lo bs k1 k2 _ ih=>
    intro m;rcases PU.mp m with e|m
    .simp only[lj hn h1 k1 e];exact PJ
    .exact PL _ (ih m)
  exact go q m
theorem uV{l:List (Str×Addr)}(hp:l.Pairwise λx y=>x.2≠y.2){x y:Str}{c:Addr}(hx:l.lookup x=some c)(hy:l.lookup y=some c):x=y:=by
 have mem:∀ {l:List (Str×Addr)} {x:Str},l.lookup x=some c->(x,c)∈l:=by
  intro l x;induction l with
  |nil=>intro e;exact ns e|cons p l ih=>
   intro e;rw[Qi] at e;split at e
   .rename_i q;injection e with e;refine e▸?_;have:x=p.1:=by simpa using q
    exact this▸PJ
   .exact PL _ (ih e)
 have key:∀ {l:List (Str×Addr)},l.Pairwise (λx y=>x.2≠y.2)->(x,c)∈l->(y,c)∈l->x=y:=by
  intro l;induction l with
  |nil=>intro _ m;cases m
  |cons p l ih=>
   intro hp a b;rw[List.pairwise_cons] at hp;rcases PU.mp a with a'|a'
   .rcases PU.mp b with b'|b'
    .have:=a'.trans b'.symm;cases this;rfl
    .exact absurd ((a'▸rfl)) (hp.1 _ b')
   .rcases PU.mp b with b'|b'
    .exact absurd (by rw[<-b']) (hp.1 _ a')
    .exact ih hp.2 a' b'
 exact key hp (mem hx) (mem hy)
theorem jU{l:List (Str×Addr)}(hn:(l.map (·.1)).Nodup){x:Str}{c:Addr}(hm:(x,c)∈l):l.lookup x=some c:=by
 induction l with
 |nil=>cases hm
 |cons p l ih=>
  rw[Qe,Qv] at hn;refine Qi.trans ?_;refine QK (PU.mp hm) (λe=>?_) λm=>?_
  .refine e▸?_;simp
  .have:(x==p.1)=false:=beq_eq_false_iff_ne.mpr λe=>hn.1 (by refine e▸?_;exact Q5 (f:=(·.1)) m);refine this.symm▸?_;exact ih hn.2 m
theorem cM:∀(names:List (Str×NameKind)) (k:Nat) (acc:List (Str×Addr)),((names.map (·.1))++(acc.map (·.1))).Nodup->((cellsFrom k names acc).map (·.1)).Nodup
 |[],k,acc,h=>h|(x,kd)::r,k,acc,h=>by
  unfold cellsFrom;split
  .refine cM r (k+1) ((x,k)::acc) ?_;exact(List.perm_middle.symm.nodup_iff).mp (by simpa using h)
  .refine cM r k acc ?_;simp only[Qe,List.cons_append,Qv] at h;exact h.2
noncomputable def Bt (sc:Sc) (names:List (Str×NameKind)):Prop:=∀x,sc.lookup x=names.lookup x\/(names.lookup x=some .cell/\sc.lookup x=some .free)\/(names.lookup x=none/\sc.lookup x=some .globalExplicit)
theorem eH:∀(names:List (Str×NameKind)) (k:Nat) (acc:List (Str×Addr)) (x:Str),(x,Rp)∈names\/(∃c,(x,c)∈acc)->∃c,(x,c)∈cellsFrom k names acc
 |[],k,acc,x,h=>by
  refine QK h (λh=>?_) λh=>?_
  .cases h
  .exact h
 |(y,kd)::r,k,acc,x,h=>by
  unfold cellsFrom;split
  .refine eH r (k+1) _ x ?_;rcases h with h|⟨c,h⟩
   .rcases PU.mp h with e|m
    .injection e with e;exact e▸ .inr ⟨k,PJ⟩
    .exact .inl m
   .exact .inr ⟨c,PL _ h⟩
  .rename_i hk;refine eH r k acc x ?_;rcases h with h|h
   .rcases PU.mp h with e|m
    .obtain⟨rfl,rfl⟩:=RW e;exact absurd rfl hk
    .exact .inl m
   .exact .inr h
theorem wU:∀(names:List (Str×NameKind)) (k:Nat) (acc:List (Str×Addr)),(names.map (·.1)).Nodup->(∀y c,(y,c)∈acc->False)->∀y c,(y,c)∈cellsFrom k names acc->names.lookup y=some .cell:=λnames k acc nd ha y c m=>by
 have key:∀(names:List (Str×NameKind)) (k:Nat) (acc:List (Str×Addr)) (y:Str) (c:Addr),(y,c)∈cellsFrom k names acc->(y,Rp)∈names\/(y,c)∈acc:=by
  intro names;induction names with
  |nil=>intro k acc y c m;exact .inr m|cons p r ih=>
   obtain⟨z,kd⟩:=p;intro k acc y c m;unfold cellsFrom at m;split at m
   .rename_i hk;rcases ih _ _ _ _ m with h|h
    .exact .inl (PL _ h)
    .rcases PU.mp h with e|h
     .injection e with e;refine e▸?_;have:kd=.cell:=by simpa using hk
      refine this.symm▸?_;exact .inl PJ
     .exact .inr h
   .rcases ih _ _ _ _ m with h|h
    .exact .inl (PL _ h)
    .exact .inr h
 rcases key names k acc y c m with h|h
 .clear key m;induction names with
  |nil=>cases h
  |cons p r ih=>
   rw[Qe,Qv] at nd;refine Qi.trans ?_;refine QK (PU.mp h) (λe=>?_) λh=>?_
   .refine e▸?_;simp
   .have:(y==p.1)=false:=by
     rw[beq_eq_false_iff_ne];intro e;exact nd.1 (QB.mpr (ag _ h e))
    refine this.symm▸?_;exact ih nd.2 h
 .exact(ha y c h).elim
theorem bh{l:List (Str×NameKind)}{x:Str}{k:NameKind}(h:l.lookup x=some k):(x,k)∈l:=by
 induction l with
 |nil=>exact ns h|cons p l ih=>
  rw[Qi] at h;split at h
  .rename_i q;refine(PD h)▸?_;have:x=p.1:=by simpa using q
   exact this▸PJ
  .exact PL _ (ih h)
structure Dn (S:SI) (n:Nat) (A:Around) (h:Heap):Prop where
 depth:A.depth+3*n+1<recursionLimit
 units:A.units+12*n+92<cLine
 hd:A.handled=none
 gd:A.guards=some []
 fr:∃l,A.frames=some l/\h.FunFrames S.h0 l/\gm S h l
theorem Dl.c(a:Dl S true n A h):Dn S n A h:=⟨by have:=a.depth;exact Gd this rfl,by have:=a.units;exact Gd this rfl,a.hd rfl,a.gd,a.fr⟩
theorem Dl.c1(a:Dl S true n A h):Dn S n A.in1 h:=⟨by have:=a.depth;refine(?_:A.depth+_+_<_);exact Gd this rfl,by have:=a.units;refine(?_:A.units+1+_+_<_);exact MV this,a.hd rfl,a.gd,a.fr⟩
noncomputable def Gh.pU (g:Gh) (Z:List Addr):Gh:=⟨g.ar,g.bH++Z⟩
theorem Up.pU(g:Gh)(Z:List Addr)(h:Heap):Up g h (g.pU Z) h:=⟨Q2 _,λzz x=>QW _ x,λzz zz x zz=>x,λzz zz zz x=>x⟩
theorem aD.pU{Z:List Addr}(r:aD S g s sh)(hz:∀z∈Z,wz sh.heap z/\S.h0.get? z=none):aD S (g.pU Z) s sh where
 ok:=r.ok
 len:=r.len
 nd:=r.nd
 bc:=λi b q=>by refine aa (r.bc i b q) λo' h1 h2=>?_;exact ag o' h1 (h2.up (Up.pU g Z _) λzz x=>x)
 so:=r.so
 bH:=λc hc=>by
  rcases QO.mp hc with m|m
  .exact r.bH c m
  .exact(hz c m).1
 base:=r.base
 jM:=r.jM
 jN:=λc hc=>by
  rcases QO.mp hc with m|m
  .exact r.jN c m
  .exact(hz c m).2
 fC:=λb m=>by refine bK (r.fC b m) λop ps h1 h2 h3 h4=>?_;exact cZ op ps h1 h2 h3 (λpos c q=>aO (h4 pos c q) λcc k1 k2 k3=>bk cc k1 (QW _ k2) k3)
 gens:=r.gens
 drawn:=r.drawn
 os:=r.os
theorem aG.pU{Z:List Addr}(e:aG S X g h g' h')(hz:∀z∈Z,h.get? z=none):aG S X g h (g'.pU Z) h':=
 {e with
  c7:=e.c7
  ar:=e.ar
  bH:=λc m=>QW _ (e.bH c m)
  dO:=λc m=>by
   rcases QO.mp m with m|m
   .exact e.dO c m
   .exact .inr (hz c m)}
noncomputable def Bu (S:SI) (env:PM):List Addr:=(env.cells.filter λq=>S.fz.contains q.1).map (·.2)
theorem oz{fd:FuncData}{a:Addr}{lo:Lo}{bs:List (Str×Value)}{s₁:Shared}(r:aD S g s sh)(aok:Dn S (n+1) A sh.heap)
  (hg:fd.globals=mainGlobals) (hb:fd.builtins=builtinsNs) (hk:fd.scope.kind=.function) (hnames:(fd.scope.names.map (·.1)).Nodup) (hsc:Bt sc fd.scope.names)
  (q:BR S g sh.heap lo bs) (hd:(lo.map (·.1)).Nodup) (hkind:∀b∈bs,fd.scope.names.lookup b.1=some .local\/fd.scope.names.lookup b.1=some .cell) (hfz:∀x∈S.fz,fd.scope.names.lookup x=some .cell->sc.lookup x=some .free/\∃b∈bs,b.1=x)
  (hcod:∀x c q,sc.lookup x=some .globalExplicit->S.cS x=some (c,q)->fd.code=.ref c/\fd.qualname++".<locals>."=q)
  (x:InCallC sh (callEnvC fd sh.heap.objs.size a).locals (bindL (callEnvC fd sh.heap.objs.size a).kindOf bs λzz=>none) (callEnvC fd sh.heap.objs.size a).cells (bindC (callEnvC fd sh.heap.objs.size a).kindOf bs λzz=>none) s₁) (fa:hZ s₁ (callEnvC fd sh.heap.objs.size a).locals):
  aG S [] g sh.heap (g.pU (Bu S (callEnvC fd sh.heap.objs.size a))) s₁.heap/\bX S true n sc (A.deeper (callEnvC fd sh.heap.objs.size a)) (g.pU (Bu S (callEnvC fd sh.heap.objs.size a))) s s₁ lo (callEnvC fd sh.heap.objs.size a):=by
 refine a8 x.done λh' tk z2 keep=>?_;obtain rfl:=z2;have e:aG S [] g sh.heap g h':=aG.bq keep;have r':aD S g s {sh with heap:=h',toks:=tk}:=r.bq keep;have kindEq:∀y,(callEnvC fd sh.heap.objs.size a).kindOf y=fd.scope.names.lookup y:=λy=>rfl;have cn:((callEnvC fd sh.heap.objs.size a).cells.map (·.1)).Nodup:=cM _ _ _ (by simpa using hnames);have dG:∀c,sh.heap.objs.size<=c->c∉g.ar/\S.h0.get? c=none/\c∉g.bH:=λc hc=>by
  have d:=Qf hc;refine j2 (λm=>?_) (r.fresh d) (λm=>?_)
  .obtain⟨i,hi⟩:=PR.mp m;refine aa (r.bc i c hi) λo' zz h2=>?_;refine aa h2.get λob' h3 zz=>?_;replace h3:=d.symm.trans h3;exact ns h3
  .refine aa (r.bH c m) λo h1 zz=>?_;replace h1:=d.symm.trans h1;exact ns h1
 have ns:=x.toInCall.ns;have look2:∀y c,(y,c)∈(callEnvC fd sh.heap.objs.size a).cells->(callEnvC fd sh.heap.objs.size a).cells.lookup y=some c:=λy c m=>jU cn m;have cellAll:∀c,c∈(callEnvC fd sh.heap.objs.size a).cells.map (·.2)->∃y,(callEnvC fd sh.heap.objs.size a).cells.lookup y=some c/\sh.heap.objs.size<c:=λc hc=>by refine aa (QB.mp hc) λzz0 hm z2=>?_;refine z2▸?_;obtain⟨y,c'⟩:=zz0;exact ag y (look2 y c' hm) (x.above y c' hm)
 have fzm:∀z∈Bu S (callEnvC fd sh.heap.objs.size a),∃y,y∈S.fz/\(callEnvC fd sh.heap.objs.size a).cells.lookup y=some z/\sh.heap.objs.size<z:=λz m=>by refine aa (QB.mp m) λzz0 hm z2=>?_;refine z2▸?_;obtain⟨y,c⟩:=zz0;obtain⟨hm,hc⟩:=List.mem_filter.mp hm;exact bk y (by simpa using hc) (look2 y c hm) (x.above y c hm)
 have eZ:aG S [] g sh.heap (g.pU (Bu S (callEnvC fd sh.heap.objs.size a))) h':=e.pU λz m=>by refine aO (fzm z m) λzz zz zz hlt=>?_;exact Qf (Qg hlt)
 have cellK:∀y c,(callEnvC fd sh.heap.objs.size a).cells.lookup y=some c->fd.scope.names.lookup y=some .cell:=λy c hc=>wU _ _ [] hnames (λy c m=>by cases m) y c (QM hc);have bn:=q.Fy r.ok.nm hd;have rZ:aD S (g.pU (Bu S (callEnvC fd sh.heap.objs.size a))) s {sh with heap:=h',toks:=tk}:=r'.pU λz m=>by refine aO (fzm z m) λy h1 h2 hlt=>?_;obtain⟨_,b,hb,rfl⟩:=hfz y h1 (cellK y z h2);have hk:=cellK _ _ h2;have:=x.cell _ z h2;rw[lx (by simp only[kindEq,hk];exact nofun) bn (show(b.1,b.2)∈bs from hb)] at this;refine aa this λo k1 k2=>?_;exact⟨(ag o k1 (.inl ⟨_,k2⟩)),(dG z (Qg hlt)).2.1⟩
 refine⟨eZ,⟨⟨?_,?_,λzz=>aok.hd,aok.gd,?_⟩,(by
  refine aa aok.fr λl q1 zz=>?_;refine⟨_,l,?_,rfl,_,rfl⟩;refine(?_:A.frames.map (callEnvC fd sh.heap.objs.size a:: ·)=_);refine q1.symm▸?_;rfl),⟨λy c m hc=>?_,λy hy=>?_,λy c q h1 h2=>hcod y c q h1 h2⟩,λy c hc m=>?_,λy=>?_,⟨hk,hg,hb,gy ns,(dG _ (P5 _)).1,(dG _ (P5 _)).2.1,λy z c hy hz=>uV x.apart hy hz,(by
  refine aa fa λo k1 k2=>?_;refine ag o k1 ?_;exact k2),λc hc=>?_⟩,rZ,_,ns,λy v hl=>?_⟩⟩
 .have:=aok.depth;refine(?_:A.depth+1+3*n+3<recursionLimit);exact MX this
 .have:=aok.units;refine(?_:A.units+3+12*n+100<cLine);exact MW this
 .refine aO aok.fr λl h1 h2 h3=>?_;refine bk (callEnvC fd sh.heap.objs.size a::l) ?_ ?_ (λen m L hL=>?_);rotate_left 2
  .rcases PU.mp m with rfl|m
   .refine(PD hL)▸?_;refine gQ (id ns) λo es ep q1 q2 zz=>?_;refine aa fa λo' k1 k2=>?_;rw[q1] at k1;obtain rfl:=PD k1;exact⟨(dG _ (P5 _)).2.1,_,es,ep,q1,k2,q2⟩
   .exact gm.ext e r h3 en m L hL
  .refine(?_:A.frames.map (callEnvC fd sh.heap.objs.size a:: ·)=_);exact congrArg _ h1
  .refine gQ ns λo es ep q1 q2 zz=>?_;refine j2 ?_ (cZ sh.heap.objs.size o rfl ((dG _ (P5 _)).2.1) q1 (λvs z=>by replace z:=q2.symm.trans z;cases z)) (FunFrames.ext e r r' h2);refine hk.symm▸?_;exact nofun
 .refine Rj _ (QB.mpr (ag (y,c) (List.mem_filter.mpr ⟨QM hc,by simpa using m⟩) rfl))
 .rw[kindEq];rcases hsc y with h|⟨h1,h2⟩|⟨h1,h2⟩
  .simp only[<-h,hy];exact nofun
  .rw[h1];exact nofun
  .rw[h1];exact nofun
 .obtain⟨_,hlt⟩:=cellAll c (aQ hc);rcases QO.mp m with m|m
  .exact absurd m (dG c (Qg hlt.2)).2.2
  .refine aO (fzm c m) λy' h1 h2 zz=>?_;refine(uV x.apart hc h2).symm▸?_;exact(hfz y' h1 (cellK y' c h2)).1
 .rw[kindEq];have cell:fd.scope.names.lookup y=some .cell->∃c,(callEnvC fd sh.heap.objs.size a).cells.lookup y=some c:=λhc=>by
   refine PW (eH fd.scope.names (sh.heap.objs.size+1) [] y (.inl (bh hc))) λc hm=>?_;exact⟨c,look2 y c hm⟩
  rcases hsc y with h|⟨h1,h2⟩|⟨h1,h2⟩
  .rw[h];exact j2 rfl id (λzz=>⟨rfl,cell⟩)
  .rw[h1,h2];exact j2 rfl nofun nofun
  .rw[h1,h2];exact j2 rfl nofun nofun
 .refine aa (cellAll c hc) λy hy hlt=>?_;refine nI (dG c (Qg hlt)) λd1 d2 zz=>?_;exact⟨d1,d2,_,x.cell y c hy⟩
 .obtain⟨hx,w,hm,qv⟩:=q.ao hl;refine⟨hx,?_⟩;rw[kindEq];refine QK (hkind _ hm) (λhkd=>?_) λhkd=>?_
  .rw[hkd];exact ag w (ro ((kindEq _).trans hkd) bn hm) (qv.ext eZ)
  .rw[hkd];refine PW (eH fd.scope.names (sh.heap.objs.size+1) [] _ (.inl (bh hkd))) λc hc=>?_;have hc':=look2 _ c hc;refine bQ c w hc' ?_ (qv.ext eZ);have:=x.cell _ c hc';rw[lx (by simp only[kindEq,hkd];exact nofun) bn hm] at this;exact this
noncomputable def CF (S:SI) (A:Around) (fa:Addr) (ys:List Value) (g:Gh) (sh:Shared) (r:R V):Prop:=match r with
 |.ok v s'=>∀(R:Result->Shared->Prop),(∀g' sh' y,aG S [] g sh.heap g' sh'.heap->aD S g' s' sh'->VR S g' sh'.heap v y->R (.ok (.ret y)) sh')->codeAny S.M A (.call (.ref fa) ⟨ys,[]⟩) R sh|_=>True
noncomputable def L5 (S:SI) (n:Nat) (call:Nat->List V->St->R V):Prop:=
 ∀k f,aZ S.r9 k=some f->∀A g s sh du vs a ys,Dn S n A sh.heap->aD S g s sh->VR S g sh.heap (.qE k du) (.ref a)->aI S g sh.heap vs ys->CF S A a ys g sh (call f (dZ du vs) s)
noncomputable def iy (S:SI) (fns:List Addr) (n:Nat) (call:Nat->List V->St->R V):Prop:=L5 S n call/\
 ∀f fa,fns[f]?=some fa->∀A g s sh vs ys,Dn S n A sh.heap->aD S g s sh->aI S g sh.heap vs ys->CF S A fa ys g sh (call f vs s)
theorem CF.w{A:Around}{fa:Addr}{ys:List Value}{r:R V}(hx:∀k s',r≠ .ez k s')(c:CF S A fa ys g sh r):W S [] A (VR S) (P6 (.ref fa) ys) g sh r:=by
 induction r with
 |no k=>trivial|ez k s'=>exact absurd rfl (hx k s')|ok v s'=>exact λQ Ex hq=>wpAny_call (c _ λg' sh' y e r q=>hq g' sh' y e r q)
theorem sT(r:aD S g s sh):sh.heap.NoLimit:=by refine aa r.ok.nl λmc zz0 h3=>?_;refine fY zz0 λo es ep h1 h2=>?_;exact ag mc (lU o es ep (r.base _ o h1 r.ok.cT) h2) h3
noncomputable def cR (call:Nat->List V->St->R V):Prop:=∀f vs s k s',call f vs s≠ .ez k s'
theorem GO{fns:List Addr}{f:Nat}{fa:Addr}{fd:FuncData}{oc:Value}{od:Option Addr}{osl:Array (Option Value)}{y:Str}{np pos:Pos}{cs:List (Code V)}{pes:List PE}(hF:iy S fns n ctx.call)(hO:cR ctx.call)(hf:fns[f]?=some fa)
  (hk:sc.lookup y=some .globalImplicit) (hd:(y==("__debug__":Str))=false) (hv:S.cQ y=some (.ref fa)) (ho:S.K.lookup fa=some ⟨oc,od,.func fd,osl⟩) (q:bM S true n sc ctx cs pes):aF S true n sc ctx (e.call f cs) (.Call (.Name y np) pes [] pos):=λA g s sh lo env p=>by
 refine(?_:W S [] A (VR S) (eval (.Name y np) env>>=λfv=>callWith pos fv [] (backTo pos (starEach pes env)) (backToKw pos (keywordEach [] env))) g sh ((gO cs ctx lo s).bind λvs s=>ctx.call f vs s));rw[aY q];refine W.oh (f:=λys=>P6 (.ref fa) ys) (eQ q p) (λQ Ex h=>?_) λvs s1 g1 sh1 ys zz e1 r1 q1=>?_
 .refine wpAny_bind (dm p hk hv hd ?_);refine Calls.callWith_function (o:=⟨oc,od,.func fd,osl⟩) (fd:=fd) (bJ q (wpAny_mono h (λvs s' h'=>?_) λzz zz e=>e));refine dw h' λzz0 h'=>?_;refine mZ zz0 λg1 s1 r1=>?_;exact⟨⟨wD r1 _ _ ho,rfl⟩,h'⟩
 .exact CF.w (hO f vs s1) (hF.2 f fa hf A g1 s1 sh1 vs ys ((p.step e1 r1).a.c) r1 q1)
noncomputable def e8 (p:Arguments):Bool:=p.posonlyargs.isEmpty&&p.kwonlyargs.isEmpty&&p.vararg.isNone&&p.kwarg.isNone
noncomputable def sU (names:List Str) (ys ds:List Value):List (Str×Value):=(names.drop (names.length-(ds.drop (ds.length-names.length)).length)).zip (ds.drop (ds.length-names.length))|>.foldl (λsl nd=>if(sl.lookup nd.1).isNone then sl++[nd] else sl) (names.zip ys)
noncomputable def bound (names:List Str) (ys ds:List Value):List (Str×Value):=names.filterMap λn=>((sU names ys ds).lookup n).map (n,·)
theorem qh{l:List (Str×Value)}{x:Str}{y:Value}(h:(x,y)∈l):(l.lookup x).isSome=true:=by
 induction l with
 |nil=>cases h
 |cons p l ih=>
  rw[Qi];split
  .rfl
  .rename_i q;rcases PU.mp h with e|m
   .rw[<-e] at q;simp at q
   .exact ih m
theorem wV{α:Type}{M:Model}{c:Prop} [Decidable c]{a b:Sem α}{Q:α->Shared->Prop}{Ex:Ec}(h:¬c)(w:wpAny M A b Q Ex sh):wpAny M A (if c then a else b) Q Ex sh:=(if_neg h).symm▸w
theorem zU{names:List Str}{ys:List Value}{k:Nat}(hk:k<=ys.length):((names.take k).filter (λn=>(List.lookup n (names.zip ys)).isNone)).isEmpty=true:=by
 rw[RT,List.filter_eq_nil_iff];intro x hx;refine PW (PR.mp hx) λi hi=>?_;replace hi:=(List.getElem?_take).symm.trans hi;split at hi
 .rename_i hik;have:=qh (P7 (List.getElem?_zip_eq_some.mpr ⟨hi,PK (PZ hik hk)⟩));rw[<-Option.not_isSome,this];exact Qu
 .exact ns hi
theorem ly:∀(l sl:List (Str×Value)),(forIn l sl λ(x:Str×Value) (r:List (Str×Value))=>(if(List.lookup x.1 r).isNone=true then(P2 (RD (r++[(x.1,x.2)])):Sem (ForInStep (List (Str×Value)))) else P2 (RD r)))=P2 (l.foldl (λsl nd=>if(sl.lookup nd.1).isNone then sl++[nd] else sl) sl)
 |[],_=>rfl|x::l,sl=>by
  rw[List.forIn_cons,List.foldl_cons];split
  .exact ly l _
  .exact ly l _
theorem DX{M:Model}{Q:List (Str×Value)->Shared->Prop}{Ex:Ec}{l sl:List (Str×Value)}(h:Q (l.foldl (λsl nd=>if(sl.lookup nd.1).isNone then sl++[nd] else sl) sl) sh):wpAny M A (forIn l sl λ(x:Str×Value) (r:List (Str×Value))=>(if(List.lookup x.1 r).isNone=true then(P2 (RD (r++[(x.1,x.2)])):Sem (ForInStep (List (Str×Value)))) else P2 (RD r))) Q Ex sh:=(ly l sl).symm▸wpAny_pure h
theorem i9{fd:FuncData}{ys ds:List Value}{M:Model}{Q:List (Str×Value)->Shared->Prop}{Ex:Ec}(hp:e8 fd.params=true)(hn:(fd.params.args.map (·.arg)).Nodup)
  (hd:wpAny M A (seqItems? fd.defaults) (λo s'=>(o.getD #[]).toList=ds/\s'=sh) Ex sh) (h1:ys.length<=fd.params.args.length) (h2:fd.params.args.length<=ys.length+ds.length)
  (h:Q (bound (fd.params.args.map (·.arg)) ys ds) sh):wpAny M A (PySem.bindArgs fd ⟨ys,[]⟩) Q Ex sh:=by
 clear hn;obtain⟨nm,qn,⟨po,as,va,ko,kd,kw,df⟩,bd,sc,gl,cl,dfl,kdf,doc,pm,an,co,ct,bi⟩:=fd;have q1:=RH.mp hp;have q2:=RH.mp q1.1;have q3:=RH.mp q2.1;clear hp;obtain rfl:=RT.mp q3.1;obtain rfl:=RT.mp q3.2;clear q3;obtain rfl:=QY.mp q2.2;clear q2;obtain rfl:=QY.mp q1.2;have l1:(as.map (·.arg)).length=as.length:=P9 _;refine(?_:wpAny M A (seqItems? dfl>>=_) Q Ex sh);refine wpAny_bind (wpAny_mono hd (λo s' h'=>?_) λzz zz e=>e);obtain⟨rfl,rfl⟩:=h';refine wV (λz=>absurd (of_decide_eq_true (RH.mp z).1) (Q4 (l1.symm▸h1))) ?_;refine wV (λz=>Qu (z.symm.trans (congrArg not (zU (names:=[]++as.map (λx:Arg=>x.arg)) (ys:=ys) ?_)))) ?_
 .have e:∀n d y:Nat,n<=y+d->n-(d-(d-n))<=y:=λn d y h=>(Nat.le_total n d).elim (λz=>by rw[Nat.sub_sub_self z,Nat.sub_self];exact QX _) λz=>by rw[Q7 z,Nat.sub_zero];exact Nat.sub_le_of_le_add h
  refine PN (Qa ?_) (e as.length _ _ h2);rw[Ra];exact congrArg (λn=>n-(_-(_-n))) l1
 .refine wpAny_bind (DX (wpAny_bind (wpAny_pure ?_)));exact wV Qu (wpAny_pure ((congrArg (λl=>Q (List.filterMap (λn=>(List.lookup n (sU (as.map λx:Arg=>x.arg) ys (o.getD #[]).toList)).map (n,·)) l) s') (QI (as.map λx:Arg=>x.arg))).mpr h))
end
section
theorem oA{l:List (Str×Value)}{x:Str}(h:x∉l.map (·.1)):l.lookup x=none:=by
 induction l with
 |nil=>rfl|cons p l ih=>refine Qi.trans ?_;have:(x==p.1)=false:=beq_eq_false_iff_ne.mpr λe=>h (by simp only[e];exact PJ);refine this.symm▸?_;exact ih λm=>h (PL _ m)
theorem jG{l:List (Str×Value)}(hn:(l.map (·.1)).Nodup){x:Str}{y:Value}(hm:(x,y)∈l):l.lookup x=some y:=by
 induction l with
 |nil=>cases hm
 |cons p l ih=>
  rw[Qe,Qv] at hn;refine Qi.trans ?_;refine QK (PU.mp hm) (λe=>?_) λm=>?_
  .refine e▸?_;simp
  .have:(x==p.1)=false:=beq_eq_false_iff_ne.mpr λe=>hn.1 (by refine e▸?_;exact Q5 (f:=(·.1)) m);refine this.symm▸?_;exact ih hn.2 m
theorem jH:∀ {names:List Str} {ys:List Value} {sl:List (Str×Value)},names.length=ys.length->(∀x y,(x,y)∈names.zip ys->sl.lookup x=some y)->names.filterMap (λn=>(sl.lookup n).map (n,·))=names.zip ys
 |[],[],_,_,_=>rfl|n::names,y::ys,sl,hl,h=>by rw[RM,h n y (by simp)];simp only[Option.map_some,List.zip_cons_cons];rw[jH (by simpa using hl) λx y m=>h x y (by simp[m])]
 |[],_::_,_,hl,_=>by cases hl
 |_::_,[],_,hl,_=>by cases hl
end
open PySem
section
theorem jV:∀(rest:List (Str×Value)) (sl:List (Str×Value)),(rest.map (·.1)).Nodup->
  rest.foldl (λsl nd=>if(sl.lookup nd.1).isNone then sl++[nd] else sl) sl=sl++rest.filter (λnd=>(sl.lookup nd.1).isNone)
 |[],sl,_=>by simp
 |x::rest,sl,hn=>by
  rw[Qe,Qv] at hn;simp only[List.foldl_cons];by_cases hx:(sl.lookup x.1).isNone=true
  .rw[if_pos hx,jV rest _ hn.2,List.filter_cons,if_pos hx];rw[Qx];congr 1;refine(?_:x::_=x::_);congr 1;refine List.filter_congr λy hy=>?_;have hne:y.1≠x.1:=λe=>hn.1 (by refine e▸?_;exact Q5 (f:=(·.1)) hy);rw[List.lookup_append];cases hl:sl.lookup y.1 with
   |some v=>simp|none=>have:(y.1==x.1)=false:=beq_eq_false_iff_ne.mpr hne;simp[Qi,this,hne]
  .rw[if_neg hx,jV rest _ hn.2,List.filter_cons,if_neg hx]
end
end
section
open PySem
section
theorem nc:∀(names:List Str) (ys:List Value),(names.zip ys).map (·.1)=names.take ys.length
 |[],ys=>by simp
 |_::_,[]=>by simp
 |n::names,y::ys=>by simp[nc names ys]
theorem O5{n d y i:Nat}(h2:n<=y+d)(hi:y<=i):d-n+(i-(n-(d-(d-n))))=y+d-n+(i-y):=by
 refine QK (Nat.le_total n d) (λh=>?_) λh=>?_
 .rw[Nat.sub_sub_self h,Nat.sub_self,Nat.sub_zero,Nat.add_sub_assoc h,RC,Nat.add_sub_cancel' hi,Nat.add_comm]
 .rw[Q7 h,Nat.sub_zero,Nat.zero_add];obtain⟨k,rfl⟩:∃k,n=k+d:=⟨n-d,(Nat.sub_add_cancel h).symm⟩;obtain⟨m,rfl⟩:=Rt (Nat.le_of_add_le_add_right h2);obtain⟨j,rfl⟩:=Rt hi;rw[Nat.add_sub_cancel,Nat.add_sub_add_right,QU,QU,Nat.add_assoc,QU]
theorem O6{n d y:Nat}(h2:n<=y+d):n-(d-(d-n))<=y:=by
 refine QK (Nat.le_total n d) (λh=>?_) λh=>?_
 .rw[Nat.sub_sub_self h,Nat.sub_self];exact QX _
 .rw[Q7 h];exact Nat.sub_le_iff_le_add.mpr h2
theorem O7{n d y:Nat}(h1:y<=n)(h2:n<=y+d):y+(d-(y+d-n))=n:=by refine PW (Rt h1) λm z1=>?_;clear h1;obtain rfl:=z1;refine PW (Rt (Nat.le_of_add_le_add_left h2)) λe z1=>?_;refine z1▸?_;rw[Nat.add_sub_add_left,QU,Nat.add_sub_cancel]
theorem Bv{ds:List Value}{n:Nat}:(ds.drop (ds.length-n)).length=ds.length-(ds.length-n):=Ra ..
theorem oC{names:List Str}{ys ds:List Value}(hn:names.Nodup)(h1:ys.length<=names.length)(h2:names.length<=ys.length+ds.length):
  bound names ys ds=names.zip (ys++ds.drop (ys.length+ds.length-names.length)):=by
 have hrest:(((names.drop (names.length-(ds.drop (ds.length-names.length)).length)).zip (ds.drop (ds.length-names.length))).map (·.1)).Nodup:=by rw[nc];exact hn.sublist ((List.take_sublist _ _).trans (List.drop_sublist _ _))
 unfold bound sU;refine(jV _ _ hrest).symm▸?_;refine jH ?_ λx y hm=>?_
 .rw[PH,Ra,O7 h1 h2]
 obtain⟨i,hi⟩:=PR.mp hm;refine dw (List.getElem?_zip_eq_some.mp hi) λhx hy=>?_;have hin:i<names.length:=(PX.mp hx).1;by_cases hiy:i<ys.length
 .have zn:((names.zip ys).map (·.1)).Nodup:=nc ..▸hn.sublist (List.take_sublist _ _);rw[List.lookup_append,jG zn (P7 (List.getElem?_zip_eq_some.mpr ⟨hx,(List.getElem?_append_left hiy).symm.trans hy⟩))];rfl
 .have hiy:=Nat.le_of_not_lt hiy;have hno:(names.zip ys).lookup x=none:=oA λm=>by
   rw[nc] at m;obtain⟨j,hj⟩:=PR.mp m;rw[List.getElem?_take] at hj;split at hj
   .rename_i hjl;exact absurd ((List.getElem?_inj hin hn).mp (hx.trans hj.symm)▸hjl) (Q4 hiy)
   .exact ns hj
  rw[List.lookup_append,hno,Option.none_or];refine jG (List.Nodup.sublist (List.Sublist.map _ List.filter_sublist) hrest) (List.mem_filter.mpr ⟨P7 (i:=i-(names.length-(ds.drop (ds.length-names.length)).length)) ?_,congrArg _ hno⟩);rw[List.getElem?_append_right hiy,RX] at hy;rw[List.getElem?_zip_eq_some,RX,RX,Bv,Nat.add_sub_cancel' (PN (O6 h2) hiy),O5 h2 hiy];exact⟨hx,hy⟩
end
end
section
open PySem PySem.W PyProof.Rows PySem.SeqAt
open Sem (wp)
variable{S:SI}{g g' g'':Gh}{h h' h'':Heap}{X Y:List Addr}{s s':St}{sh sh':Shared}
section
variable{hN:Bool}{n:Nat}{sc:Sc}{ctx:Ctx}{A:Around}{α β:Type}{V1:Gh->Heap->β->α->Prop}
theorem VR.L6{a:Addr}{c:String}{xs:Array Value}{m:Nat}{od sl}{vs:List V}(r:aD S g s sh)(ho:S.K.lookup a=some ⟨.type c,od,.seq xs m,sl⟩)(hc:(c=="tuple")=true)(q:aI S g sh.heap vs xs.toList):VR S g sh.heap (.av vs) (.ref a):=by rw[eq_of_beq hc] at ho;exact bQ a xs rfl ⟨_,wD r a _ ho,rfl,m,rfl⟩ q
noncomputable abbrev KV (K:Frag) (v:V) (y:Value):Prop:=∀(S:SI) (g:Gh) (s:St) (sh:Shared),S.K=K->aD S g s sh->VR S g sh.heap v y
noncomputable def Jo (K:Frag) (f:(v:V)->(y:Value)->Ev (KV K v y)):(vs:List V)->(ys:List Value)->Ev (∀(S:SI) (g:Gh) (s:St) (sh:Shared),S.K=K->aD S g s sh->aI S g sh.heap vs ys)
 |[],[]=>.yes λzz zz zz zz zz zz=>aI.nil|v::vs,y::ys=>(f v y).th λa=>(Jo K f vs ys).th λb=>.yes λS g s sh e r=>aI.cons (a S g s sh e r) (b S g s sh e r)|_,_=>.no
noncomputable def yB (K:Frag):(d:Nat)->(v:V)->(y:Value)->Ev (KV K v y)
 |0,v,y=>(wQ v y).th λa=>.yes λS g zz sh zz zz=>a S g sh.heap|d+1,v,y=>match v with
  |.none=>(match y with|.none=>.yes λzz zz zz zz zz zz=>by unfold VR;rfl|_=>.no)|.av vs=>(match y with
   |.ref a=>(match ho:K.lookup a with
    |some ⟨.type c,_,.seq xs _,_⟩=>(gd (c=="tuple")).th λh1=>(Jo K (yB K d) vs xs.toList).th λq=>.yes λS g s sh e r=>by subst e;exact VR.L6 r ho h1 (q S g s sh rfl r)
    |_=>.no)
   |_=>.no)
  |v=>(wQ v y).th λa=>.yes λS g zz sh zz zz=>a S g sh.heap
noncomputable def sV (K:Frag) (d:Nat) (v:V) (y:Value):Bool:=(yB K d v y).ok
theorem zV(r:aD S g s sh)(d:Nat)(v:V)(y:Value)(h:sV S.K d v y=true):VR S g sh.heap v y:=Ev.get h S g s sh rfl r
end
section
variable{M:Model}{A:Around}{E:Ec}{s s₀:Shared}
theorem DY{scope:Scope}{globals:Addr}{closure:List (Str×Addr)}{binds:List (Str×Value)}{qual:Str}{func:Option Addr}{code:Value}{builtins:Addr}{Q:PM->Shared->Prop}
  (hc:∀x∈scope.names,x.2≠ .cell) (hl:∀x∈binds,scope.names.lookup x.1=some .local)
  (hQ:∀h' tk,h'.Ns s.heap.objs.size (λx=>binds.reverse.lookup x)->
   P0 s.heap.objs.size (s.heap.push {cls:=.type "frame",data:=.dict #[]}) h'->(∃o,h'.get? s.heap.objs.size=some o/\o.cls=.type "frame")->
   Q (newEnv scope s.heap.objs.size globals closure qual func code none builtins) {s with heap:=h',toks:=tk})
  (hk:scope.kind=.function):
  wpAny M A (newFunctionEnv scope globals closure binds qual func code none builtins) Q E s:=by
 dsimp only[newFunctionEnv,Option.isSome_none,RB,if_false];refine wpAny_bind (wpAny_alloc ?_);rw[forIn_yield_id closure (λx hx c=>by
  obtain⟨name,kind⟩:=x;have:(kind==Rp)=false:=by simpa using hc _ hx
  simp only[this,RB,if_false])]
 refine wpAny_bind (wpAny_pure (wpAny_bind ?_));refine wpAny_forIn_list _
  (λrest zz s'=>∃done h' tk,binds=done++rest/\s'={s with heap:=h',toks:=tk}/\
   h'.Ns s.heap.objs.size (λx=>done.reverse.lookup x)/\
   P0 s.heap.objs.size (s.heap.push {cls:=.type "frame",data:=.dict #[]}) h'/\∃o,h'.get? s.heap.objs.size=some o/\o.cls=.type "frame") _ ?_ ?_ binds _
  ⟨[],_,_,rfl,rfl,Heap.Ns.new ..,P0.refl ..,_,PQ _ rfl,rfl⟩
 .rintro⟨name,v⟩ rest _ s' ⟨done,h',tk,hb,rfl,oE,hsb,ob,ho,hcl⟩;have hk':PM.kindOf {scope,locals:=s.heap.objs.size,globals,cells:=closure,qual,func,code,frame:=some s.heap.objs.size,builtins} name=some .local:=
   hl (name,v) (by rw[hb];simp)
  have hp:(({scope,locals:=s.heap.objs.size,globals,cells:=closure,qual,func,code,frame:=some s.heap.objs.size,builtins}:PM).scope.kind==.class||(({scope,locals:=s.heap.objs.size,globals,cells:=closure,qual,func,code,frame:=some s.heap.objs.size,builtins}:PM).scope.kind==.module&&
    ({scope,locals:=s.heap.objs.size,globals,cells:=closure,qual,func,code,frame:=some s.heap.objs.size,builtins}:PM).locals !=({scope,locals:=s.heap.objs.size,globals,cells:=closure,qual,func,code,frame:=some s.heap.objs.size,builtins}:PM).globals))=false:=by
   refine hk.symm▸?_;rfl
  rw[storeName_local hk' hp];refine wpAny_bind (AX oE λh'' hns' hsb' hcl'=>wpAny_pure (ug (done++[(name,v)]) h'' _ (by simp[hb]) rfl ?_ (hsb.trans hsb') ?_))
  .simp only[lookup_reverse_snoc];exact hns'
  .refine aa (hcl' ob ho) λo' k1 k2=>?_;exact ag o' k1 (k2.trans hcl)
 .rintro _ s' hh0;refine fZ hh0 λdone h' tk hb z4 oE hsb hcl=>?_;refine z4▸?_;simp only[QI] at hb;subst hb;exact wpAny_pure (hQ h' tk oE hsb hcl)
end
section
variable{S:SI}{g g' g'':Gh}{h h' h'':Heap}{X Y:List Addr}{s s':St}{sh sh':Shared}{hN:Bool}{n:Nat}{sc:Sc}{ctx:Ctx}{A:Around}
theorem kB:∀ {ps:List Nat} {vs:List V} {lo:Lo},uc ps vs=some lo->ps.length=vs.length
 |[],[],_,_=>rfl|[],_::_,_,h=>by exact ns h
 |_::_,[],_,h=>by exact ns h
 |p::ps,v::vs,lo,h=>by
  change (match uc ps vs with|some lo=>some ((p,v)::lo)|.none=>.none)=_ at h;refine cJ (uc ps vs) (λz=>?_) λlo' z=>?_
  .replace h:=z▸h;exact ns h
  .simp[kB z]
theorem kC(hn:S.nm.Nodup):∀ {ps:List Nat},(∀x∈ps,x<S.nm.length)->ps.Nodup->(ps.map S.n).Nodup
 |[],_,_=>by simp
 |p::ps,hp,h=>by rw[Qv] at h;rw[Qe,Qv];refine⟨λm=>?_,kC hn (λx m=>hp x (PL _ m)) h.2⟩;refine aa (QB.mp m) λq hq e=>?_;simp only[lj hn (hp q (PL _ hq)) (hp p PJ) e] at hq;exact h.1 hq
structure L7 (S:SI) (fns:List Addr) (k:Nat) (ps:List Nat) (e:Code V) (fd:FuncData) (bodyE:PE):Prop where
 bd:fd.body=.expr bodyE
 gl:fd.globals=mainGlobals
 bl:fd.builtins=builtinsNs
 df:fd.defaults=.none
 qE:∀x c,fd.closure.lookup x=some c->fd.scope.names.lookup x=some .free
 kind:fd.scope.kind=.function
 co:fd.scope.isCoroutine=false
 t5:fd.scope.isGenerator=false
 plain:e8 fd.params=true
 names:fd.params.args.map (·.arg)=ps.map S.n
 ar:∀x∈ps.map S.n,fd.scope.names.lookup x=some .local
 vW:∀x∈(S.iW k).map S.n,fd.scope.names.lookup x=some .free
 Bw:∀x∈fd.scope.names,x.2≠ .cell/\x.2≠ .globalExplicit
 L8:∀n call,iy S fns n call->cR call->aF S true n fd.scope.names ⟨1000,call⟩ e bodyE
structure GP (S:SI) (fns:List Addr) (k:Nat) (fn:Fn) (ps:List Nat) (e:Code V):Prop where
 kS:∀fd,S.kS k fd->∃bodyE,L7 S fns k ps e fd bodyE
 yC:fn.params=S.iW k++ps
 DZ:fn.defaults=[]
 Dp:∀x∈fn.params,x<S.nm.length
 pn:fn.params.Nodup
 body:fn.body=Mp.s.ret e
theorem cK.ao{cl:List (Str×Addr)}:∀ {xs:List Nat} {ws:List Value},cK S g h cl xs ws->xs.length=ws.length/\∀y w,(y,w)∈(xs.map S.n).zip ws->∃c,cl.lookup y=some c/\c∈g.bH/\h.IsCell c (some w)
 |[],[],_=>⟨rfl,λy w m=>by cases m⟩|x::xs,v::vs,⟨q1,q2⟩=>by
  refine dw (cK.ao q2) λi1 i2=>?_;refine⟨by simp[i1],λy w m=>?_⟩;rcases PU.mp m with e|m
  .injection e with u v;refine u▸?_;exact v▸q1
  .exact i2 y w m
 |[],_::_,q=>q.elim|_::_,[],q=>q.elim
theorem yD{α β:Type}:∀ {a b:List α} {c d:List β},a.length=c.length->(a++b).zip (c++d)=a.zip c++b.zip d
 |[],_,[],_,_=>rfl|x::a,b,y::c,d,h=>by simp only[List.cons_append,List.cons_append,List.zip_cons_cons,List.zip_cons_cons,List.cons_append,yD (by simpa using h)]
 |[],_,_::_,_,h=>by cases h
 |_::_,_,[],_,h=>by cases h
theorem wW{l:List (Str×Value)}{x:Str}{v:Value}(hn:(l.map (·.1)).Nodup)(m:(x,v)∈l):l.reverse.lookup x=some v:=by
 have hn':(l.reverse.map (·.1)).Nodup:=by rw[List.map_reverse];unfold List.Nodup;rw[List.pairwise_reverse];exact hn.imp λh=>Ne.symm h
 have m':(x,v)∈l.reverse:=List.mem_reverse.mpr m;generalize l.reverse=r at hn' m';clear hn m;induction r with
 |nil=>cases m'
 |cons p r ih=>
  rw[Qe,Qv] at hn';refine Qi.trans ?_;refine QK (PU.mp m') (λe=>?_) λm=>?_
  .refine e▸?_;simp
  .have:(x==p.1)=false:=by
    rw[beq_eq_false_iff_ne];intro e;exact hn'.1 (QB.mpr (ag _ m e))
   refine this.symm▸?_;exact ih hn'.2 m
theorem D0{fd:FuncData}{a:Addr}{lo:Lo}{ps xs:List Nat}{du vs:List V}{ws ys:List Value}{h₁:Heap}{tk:Nat}(r:aD S g s sh)(aok:Dn S (n+1) A sh.heap)
  (hg:fd.globals=mainGlobals) (hb:fd.builtins=builtinsNs) (hk:fd.scope.kind=.function) (hcl:∀x c,fd.closure.lookup x=some c->fd.scope.names.lookup x=some .free)
  (hpn:(xs++ps).Nodup) (hidx:∀x∈xs++ps,x<S.nm.length) (hloc:∀x∈ps.map S.n,fd.scope.names.lookup x=some .local) (hcap:∀x∈xs.map S.n,fd.scope.names.lookup x=some .free) (hpl:∀x∈fd.scope.names,x.2≠ .cell/\x.2≠ .globalExplicit)
  (hz:uc (xs++ps) (du++vs)=some lo) (cq:cK S g sh.heap fd.closure xs ws) (q1:aI S g sh.heap du ws) (q2:aI S g sh.heap vs ys) (hf:AP g sh.heap fd)
  (oE:h₁.Ns sh.heap.objs.size (λx=>((ps.map S.n).zip ys).reverse.lookup x)) (hsb:P0 sh.heap.objs.size (sh.heap.push {cls:=.type "frame",data:=.dict #[]}) h₁) (hcls:∃o,h₁.get? sh.heap.objs.size=some o/\o.cls=.type "frame")
  (env:PM) (he:env=newEnv fd.scope sh.heap.objs.size fd.globals fd.closure (fd.qualname++".<locals>.") (some a) fd.code none fd.builtins):
  aG S [] g sh.heap g h₁/\bX S true n fd.scope.names (A.deeper env) g s {sh with heap:=h₁,toks:=tk} lo env:=by
 have keep:∀b o,sh.heap.get? b=some o->h₁.get? b=some o:=λb o e=>hsb.extBut b o (Qw (Rk e)) (PO _ e);have e:aG S [] g sh.heap g h₁:=aG.bq keep;have r':aD S g s {sh with heap:=h₁,toks:=tk}:=r.bq keep;have d:=dj sh.heap;have dG:sh.heap.objs.size∉g.ar/\S.h0.get? sh.heap.objs.size=none:=by refine⟨λm=>?_,r.fresh d⟩;obtain⟨i,hi⟩:=PR.mp m;refine aa (r.bc i _ hi) λo' zz h2=>?_;refine aa h2.get λob' h3 zz=>?_;rw[d] at h3;exact ns h3
 subst he;have kindEq:∀y,(newEnv fd.scope sh.heap.objs.size fd.globals fd.closure (fd.qualname++".<locals>.") (some a) fd.code none fd.builtins).kindOf y=fd.scope.names.lookup y:=λy=>rfl;refine dw (BR.zip (g:=g) (h:=sh.heap) hz hidx (q1.dZ q2)) λbr bn=>?_;have lc:=(cK.ao cq).1;have zz:((xs++ps).map S.n).zip (ws++ys)=(xs.map S.n).zip ws++(ps.map S.n).zip ys:=by rw[QZ];exact yD (by simpa using lc)
 simp only[zz] at br;have nd:=br.Fy r.ok.nm (by simp only[bn];exact hpn);rw[QZ,List.nodup_append] at nd;refine⟨e,⟨⟨?_,?_,λzz=>aok.hd,aok.gd,?_⟩,(by
  refine aa aok.fr λl q1 zz=>?_;refine⟨_,l,?_,rfl,_,rfl⟩;refine(?_:A.frames.map _=_);refine q1.symm▸?_;rfl),⟨λy c m hc=>?_,λy hy=>?_,λy c q h1 h2=>?_⟩,λy c hc m=>hcl y c hc,λy=>?_,⟨hk,hg,hb,gy oE,dG.1,dG.2,hf.2.1,hcls,λc hc=>?_⟩,r',_,oE,λy v hl=>?_⟩⟩
 .have:=aok.depth;refine(?_:A.depth+1+3*n+3<recursionLimit);exact MX this
 .have:=aok.units;refine(?_:A.units+3+12*n+100<cLine);exact MW this
 .refine aO aok.fr λl h1 h2 h3=>?_;refine bk (newEnv fd.scope sh.heap.objs.size fd.globals fd.closure (fd.qualname++".<locals>.") (some a) fd.code none fd.builtins::l) ?_ ?_ (λen m L hL=>?_);rotate_left 2
  .rcases PU.mp m with rfl|m
   .refine(PD hL)▸?_;refine gQ (id oE) λo es ep q1 q2 zz=>?_;refine aa hcls λo' k1 k2=>?_;rw[q1] at k1;obtain rfl:=PD k1;exact⟨dG.2,_,es,ep,q1,k2,q2⟩
   .exact gm.ext e r h3 en m L hL
  .refine(?_:A.frames.map _=_);exact congrArg _ h1
  .refine gQ oE λo es ep q1 q2 zz=>?_;refine j2 ?_ (cZ sh.heap.objs.size o rfl dG.2 q1 (λvs z=>by replace z:=q2.symm.trans z;cases z)) (FunFrames.ext e r r' h2);refine hk.symm▸?_;exact nofun
 .exact(hf.2.2 c (aQ hc)).1
 .rw[kindEq,hy];exact nofun
 .exact absurd rfl (hpl _ (bh h1)).2
 .rw[kindEq];refine j2 rfl id (λzz=>⟨rfl,λhc=>?_⟩);exact absurd rfl (hpl _ (bh hc)).1
 .obtain⟨k1,v,o,k2,k3⟩:=hf.2.2 c hc;refine⟨λm=>?_,r.jN c k1,v,o,keep _ _ k2,k3⟩;obtain⟨i,hi⟩:=PR.mp m;refine aa (r.bc i _ hi) λo' zz h2=>?_;refine dQ h2.get λob' h3 zz h4 zz=>?_;rw[k2] at h3;obtain rfl:=PD h3;exact h4 _ k3
 .obtain⟨hx,w,hm,qv⟩:=br.ao hl;refine⟨hx,?_⟩;rw[kindEq];refine QK (QO.mp hm) (λhm=>?_) λhm=>?_
  .skip
   have hf':=hcap _ (List.of_mem_zip hm).1;simp only[hf'];obtain⟨c,c1,c2,o,c3,c4⟩:=(cK.ao cq).2 _ _ hm;exact bQ c w c1 (ag o (keep _ _ c3) c4) (qv.ext e)
  .have hl':=hloc _ (List.of_mem_zip hm).1;rw[hl'];exact ag w (wW nd.2.1 hm) (qv.ext e)
theorem D1{fns:List Addr}{k f:Nat}{fn:Fn}{ps:List Nat}{e:Code V}{Fs:List Fn}{call:Nat->List V->St->R V}{a:Addr}(hfn:aZ Fs f=some fn)(ko:GP S fns k fn ps e)
  (hF:iy S fns n call) (hO:cR call) {du vs:List V} {ys:List Value} (aok:Dn S (n+1) A sh.heap) (r:aD S g s sh) (qc:VR S g sh.heap (.qE k du) (.ref a)) (q:aI S g sh.heap vs ys):CF S A a ys g sh (iU Fs call f (dZ du vs) s):=by
 unfold iU;rw[hfn];dsimp only;refine IA qc λa' oc od fd osl ws e1 hat hlam cq cv hf=>?_;obtain rfl:=Qq e1;obtain⟨bodyE,kf⟩:=ko.kS fd hlam;rw[bx,ko.DZ,ko.yC];cases hz:Mp.bindArgs (S.iW k++ps) [] (du++vs) with
 |none=>trivial|some lo=>
  dsimp only;unfold Mp.bindArgs at hz;simp only[bx,eh,List.drop_nil,QI] at hz;have hl:=kB hz;have lc:=(cK.ao cq).1;have l8:=cv.length;have l9:=q.length;simp only[PH,PH] at hl;have hpl:fd.params.args.length=ps.length:=by have:=congrArg List.length kf.names;simpa using this
  have pn:=ko.pn;have Dp:=ko.Dp;rw[ko.yC] at pn Dp;have hnn:(fd.params.args.map (·.arg)).Nodup:=by simp only[kf.names];exact kC r.ok.nm (λx m=>Dp x (Rj _ m)) (List.nodup_append.mp pn).2.1
  have hb:=oC (names:=fd.params.args.map (·.arg)) (ys:=ys) (ds:=[]) hnn (by simp only[P9];omega) (by rw[P9];refine(?_:_<=_+0);omega);rw[kf.names,List.drop_nil,QI] at hb;refine ko.body.symm▸?_;cases hr:e ⟨1000,call⟩ lo s with
  |no w=>unfold Mp.s.ret;refine hr.symm▸?_;trivial|ez k' s1=>unfold Mp.s.ret;rw[hr];trivial|ok v s1=>
   unfold Mp.s.ret;rw[hr];intro R hR;refine kla_callFunE (fd:=fd) (by have:=aok.depth;exact Ge this) hat rfl kf.co kf.t5 kf.bd ?_ ?_
   .obtain⟨zz0,_⟩:=hf;refine aO zz0 λc c1 c2 c3=>?_;exact c3
   .refine i9 (ds:=[]) kf.plain hnn ?_ (by omega) (by refine(?_:_<=_+0);omega) ?_
    .refine kf.df.symm▸?_;exact wpAny_pure ⟨rfl,rfl⟩
    .rw[kf.names,hb];refine DY (λx m=>(kf.Bw x m).1) (λx m=>kf.ar _ (List.of_mem_zip m).1) (λh₁ tk oE hsb hcls=>?_) kf.kind;have keep:∀b o,sh.heap.get? b=some o->h₁.get? b=some o:=λb o e=>hsb.extBut b o (Qw (Rk e)) (PO _ e);refine⟨(sT r).keeps keep,?_⟩;refine dw (D0 (tk:=tk) (a:=a) r aok kf.gl kf.bl kf.kind kf.qE pn Dp kf.ar kf.vW kf.Bw hz cq cv q hf oE hsb hcls _ rfl) λx1 p1=>?_;refine kla_codeExpr ?_;have w:=kf.L8 n call hF hO _ _ _ _ _ _ p1;simp only[hr] at w;exact w _ _ λg' sh' y e2 r2 vq=>hR g' sh' y (x1.trans e2) r2 vq
end
section
variable{hN:Bool}{n:Nat}{sc:Sc}{ctx:Ctx}{A:Around}{α β:Type}{V1:Gh->Heap->β->α->Prop}
structure zW (S:SI) (fns:List Addr) (fa:Addr) (fn:Fn) (fd:FuncData) (body:List Stmt) (sc:Sc):Prop where
 D2:∃oc od osl,S.K.lookup fa=some ⟨oc,od,.func fd,osl⟩
 bd:fd.body=.stmts body
 gl:fd.globals=mainGlobals
 bl:fd.builtins=builtinsNs
 qE:fd.closure=[]
 code:codeIn S.K fd.code fd.qualname=true
 kind:fd.scope.kind=.function
 co:fd.scope.isCoroutine=false
 t5:fd.scope.isGenerator=false
 plain:e8 fd.params=true
 names:fd.params.args.map (·.arg)=fn.params.map S.n
 Dp:∀x∈fn.params,x<S.nm.length
 pn:fn.params.Nodup
 sn:(fd.scope.names.map (·.1)).Nodup
 ar:∀x∈fn.params.map S.n,fd.scope.names.lookup x=some .local\/fd.scope.names.lookup x=some .cell
 M8:Bt sc fd.scope.names
 DZ:(fd.defaults=.none/\fn.defaults=[])\/sV S.K 3 (.av fn.defaults) fd.defaults=true
 M9:∀x∈S.fz,fd.scope.names.lookup x=some .cell->sc.lookup x=some .free/\x∈fn.params.map S.n
 IS:∀x c q,sc.lookup x=some .globalExplicit->S.cS x=some (c,q)->fd.code=.ref c/\fd.qualname++".<locals>."=q
 body:∀n call,iy S fns n call->cR call->iM S true n sc ⟨1000,call⟩ fn.body body
theorem mi(r:aD S g s sh){ds:List V}{dv:Value}(h:(dv=.none/\ds=[])\/sV S.K 3 (.av ds) dv=true):
  ∃ys,aI S g sh.heap ds ys/\∀M A Ex,wpAny M A (seqItems? dv) (λo s'=>(o.getD #[]).toList=ys/\s'=sh) Ex sh:=by
 rcases h with⟨rfl,rfl⟩|h
 .exact ag ([]) aI.nil (λM A Ex=>wpAny_pure ⟨rfl,rfl⟩)
 .have q:=zV r _ _ _ h;refine aw q λa xs z2 zz0 h4=>?_;refine z2▸?_;obtain⟨o,h1,h2,k,h3⟩:=zz0;exact ag xs.toList h4 (λM A Ex=>wpAny_seqItems h1 h3 ⟨rfl,rfl⟩)
theorem BR.mem{lo:Lo}{bs:List (Str×Value)}(q:BR S g h lo bs):∀b∈bs,b.1∈(lo.map (·.1)).map S.n:=by
 induction q with
 |nil=>intro b m;cases m
 |cons _ _ _ ih=>
  intro b m;rcases PU.mp m with e|m
  .simp only[e];exact PJ
  .exact PL _ (ih b m)
theorem BR.names{lo:Lo}{bs:List (Str×Value)}(q:BR S g h lo bs){ps:List Nat}(hn:lo.map (·.1)=ps):bs.map (·.1)=ps.map S.n:=by
 subst hn;induction q with
 |nil=>rfl|cons _ _ _ ih=>simp only[Qe,Qe,Qe,ih]
theorem GQ{fns:List Addr}{fa:Addr}{fn:Fn}{fd:FuncData}{body:List Stmt}{Fs:List Fn}{f:Nat}{call:Nat->List V->St->R V}(hfn:aZ Fs f=some fn)(k:zW S fns fa fn fd body sc)
  (hF:iy S fns n call) (hO:cR call) {vs:List V} {ys:List Value} (aok:Dn S (n+1) A sh.heap) (r:aD S g s sh) (q:aI S g sh.heap vs ys):CF S A fa ys g sh (iU Fs call f vs s):=by
 unfold iU;refine hfn.symm▸?_;dsimp only;cases hz:Mp.bindArgs fn.params fn.defaults vs with
 |none=>trivial|some lo=>
  dsimp only;refine AK k.D2 λoc od osl hat=>?_;refine aa (mi r k.DZ) λds hds hdw=>?_;unfold Mp.bindArgs at hz;simp only[bx,eh,aJ,aJ,aJ] at hz;have hl:=kB hz;have hy:=q.length;have hd:=hds.length;rw[PH,Ra] at hl;have hpl:fd.params.args.length=fn.params.length:=by have:=congrArg List.length k.names;simpa using this
  have hnn:(fd.params.args.map (·.arg)).Nodup:=by simp only[k.names];exact kC r.ok.nm k.Dp k.pn
  have l1:ys.length<=fd.params.args.length:=by omega
  have l2:fd.params.args.length<=ys.length+ds.length:=by omega
  have hb:=oC (names:=fd.params.args.map (·.arg)) (ys:=ys) (ds:=ds) hnn (by simpa using l1) (by simpa using l2);rw[k.names,P9,<-hy,<-hd] at hb;refine dw (BR.zip (g:=g) (h:=sh.heap) hz k.Dp (q.dZ (hds.drop _))) λbr bn=>?_;have hnd:(lo.map (·.1)).Nodup:=by simp only[bn];exact k.pn
  have kinds:∀b∈(fn.params.map S.n).zip (ys++ds.drop (vs.length+fn.defaults.length-fn.params.length)),fd.scope.names.lookup b.1=some .local\/fd.scope.names.lookup b.1=some .cell:=λb m=>by have:=br.mem b m;rw[bn] at this;exact k.ar _ this
  clear hpl hd hy hl hfn;cases hr:(bb (fn.body ⟨1000,call⟩ lo s)) with
  |no w=>trivial|ez _ _=>trivial|ok b s1=>
   have hbody:fn.body ⟨1000,call⟩ lo s=.ok b s1:=by
    cases z:fn.body ⟨1000,call⟩ lo s with
    |no w=>replace hr:=z▸hr;exact kW hr|ez _ _=>replace hr:=z▸hr;exact kW hr|ok b' s1'=>rw[z] at hr;injection hr with u v;subst v;subst u;rfl
   have main:∀v,(v=match b.1 with|.ret v=>v|_=>.none)->CF S A fa ys g sh (.ok v s1):=λv hv R hR=>by
    refine oi (o:=⟨oc,od,.func fd,osl⟩) (fd:=fd) (body:=body) (by have:=aok.depth;exact Ge this) (wD r _ _ hat) rfl (sT r) (codeRec_of (wD r) k.code) k.bd
     (binds:=(fn.params.map S.n).zip (ys++ds.drop (vs.length+fn.defaults.length-fn.params.length))) (λM A' E Q hq=>?_) k.qE (λx m=>?_) (λs₁ hin fa=>?_) k.co k.t5 k.kind
    .refine i9 (ds:=ds) k.plain hnn (hdw M A' E) l1 l2 ?_;rw[k.names,hb];exact hq
    .rcases kinds x m with h|h
     .exact .inl h
     .refine .inr ⟨h,?_⟩;refine PW (eH fd.scope.names (sh.heap.objs.size+1) [] _ (.inl (bh h))) λc hm=>?_;refine(jU (cM _ _ _ (by simpa using k.sn)) hm).symm▸?_;rfl
    .clear hr hat;obtain⟨e1,p1⟩:=oz (sc:=sc) r aok k.gl k.bl k.kind k.sn k.M8 br hnd kinds (λx hx hc=>(by
      obtain⟨h1,h2⟩:=k.M9 x hx hc;rw[<-br.names bn] at h2;refine aa (QB.mp h2) λb hb e=>?_;exact⟨h1,b,hb,e⟩)) k.IS hin fa
     have w:=k.body n call hF hO _ _ s s₁ lo _ p1;replace w:=hbody▸w;refine w _ _ λg' sh' a e2 r2 vq=>?_;clear w p1 hbody hnd bn br hz hO hF k;obtain⟨f',lo'⟩:=b;obtain⟨q1,q2⟩:=vq;have e2':aG S [] g sh.heap g' sh'.heap:=(e1.nil.trans e2).eg λx hx=>.inr (by
      rcases PU.mp hx with rfl|hx
      .exact Qf (P5 _)
      .refine aa (QB.mp hx) λzz0 hm z2=>?_;refine z2▸?_;clear z2;obtain⟨y,c⟩:=zz0;exact Qf (Qg (hin.above y c hm)))
     clear q2 e2 e1 fa hin kinds hb l2 l1 hnn hdw hds q;cases q1 with
     |next=>exact hR g' sh' _ e2' r2 (by refine hv▸?_;rfl)|brk=>exact hR g' sh' _ e2' r2 (by refine hv▸?_;rfl)|cont=>exact hR g' sh' _ e2' r2 (by refine hv▸?_;rfl)|ret h=>exact hR g' sh' _ e2' r2 (hv▸h)
   clear hbody hr kinds hnd bn br hb l2 l1 hnn hz hdw hds hat q hO hF k;obtain⟨f',lo'⟩:=b;induction f'<;>exact main _ rfl
theorem wX(Fs:List Fn):∀n,cR (run Fs n)
 |0,f,vs,s,k,s',h=>by exact IC h
 |n+1,f,vs,s,k,s',h=>by
  change iU Fs (run Fs n) f vs s=_ at h;unfold iU at h;refine cJ (aZ Fs f) (λe=>?_) λfn e=>?_
  .rw[e] at h;exact IC h
  .rw[e] at h;dsimp only at h;refine cJ (bindArgs fn.params fn.defaults vs) (λe2=>?_) λlo e2=>?_
   .rw[e2] at h;exact IC h
   .rw[e2] at h;dsimp only at h;clear e e2;cases z:fn.body ⟨1000,run Fs n⟩ lo s with
    |no w=>rw[z] at h;exact IC h|ez k s1=>rw[z] at h;exact IC h|ok b s1=>rw[z] at h;clear z;obtain⟨f',lo'⟩:=b;cases f'<;>exact OW h
theorem sW{fns:List Addr}{Fs:List Fn}(hall:∀f fa fn,fns[f]?=some fa->aZ Fs f=some fn->∃fd body sc,zW S fns fa fn fd body sc)(hlam:∀k f fn,aZ S.r9 k=some f->aZ Fs f=some fn->∃ps e,GP S fns k fn ps e):∀n,iy S fns n (run Fs n)
 |0=>⟨λk f hf A g s sh du vs a ys c r q1 q2=>trivial,λf fa hf A g s sh vs ys a r q=>trivial⟩|n+1=>⟨λk f hf A g s sh du vs a ys c r q1 q2=>by
  refine(?_:CF S A a ys g sh (iU Fs (run Fs n) f (dZ du vs) s));refine cJ (aZ Fs f) (λz=>?_) λfn z=>?_
  .unfold iU;refine z.symm▸?_;trivial
  .refine mZ (hlam k f fn hf z) λps e k=>?_;exact D1 z k (sW hall hlam n) (wX Fs n) c r q1 q2,λf fa hf A g s sh vs ys a r q=>by
  refine(?_:CF S A fa ys g sh (iU Fs (run Fs n) f vs s));refine cJ (aZ Fs f) (λz=>?_) λfn z=>?_
  .unfold iU;refine z.symm▸?_;trivial
  .refine AK (hall f fa fn hf z) λfd body sc k=>?_;exact GQ z k (sW hall hlam n) (wX Fs n) a r q⟩
noncomputable def lz:Nat->Option (String×String)
 |0=>some ("append","list.append")|1=>some ("pop","list.pop")|3=>some ("insert","list.insert")|_=>none
theorem aI.wY{a b:V}{ys:List Value}(q:aI S g h [a,b] ys):∃x y,ys=[x,y]/\VR S g h a x/\VR S g h b y:=by refine aw q.bI λx r z2 h1 h2=>?_;refine z2▸?_;refine aw h2.bI λy r' z2 h3 h4=>?_;refine z2▸?_;refine h4.fj.symm▸?_;exact bQ x y rfl h1 h3
theorem aI.fO{a:V}{ys:List Value}(q:aI S g h [a] ys):∃x,ys=[x]/\VR S g h a x:=by refine aw q.bI λx r z2 h1 h2=>?_;refine z2▸?_;refine h2.fj.symm▸?_;exact ag x rfl h1
theorem wZ{l:Nat}{a:Addr}{xs:List V}{v:V}{y:Value}(r:aD S g s sh)(q:VR S g sh.heap (.ar l) (.ref a))(hl:s.get l=some (.list xs))(hz:xs.length<100000)(qv:VR S g sh.heap v y):
  W S X A (VR S) (P6 (.builtin "list.append") [.ref a,y]) g sh (.ok .none (s.bU l (.list (xs++[v])))):=λQ Ex k=>by
 refine eD (dH r q hl) λzz ys m e h1 ho q1=>?_;obtain rfl:=Qq e;have hn:=q1.dz;refine dw (jr (X:=X) (f:=λz=>z.push y) (tk:=sh.toks) (vs':=xs++[v]) r h1 ho (by simpa using q1.dZ (aI.fU qv))) λe1 r1=>?_;exact call_meets slot_list_append (ag _ ho rfl) entry_list_append (args_list_append _ _) (AutoListH.list_append_list_val_0 a ys m y (by simp only[sizeLine_eq];exact r8 hn hz)) ⟨ho,k _ _ _ e1 r1 (by rfl)⟩
theorem sX{l:Nat}{a:Addr}{xs:List V}{v:V}(r:aD S g s sh)(q:VR S g sh.heap (.ar l) (.ref a))(hl:s.get l=some (.list (xs++[v])))(hz:xs.length<100000):
  W S X A (VR S) (P6 (.builtin "list.pop") [.ref a]) g sh (.ok v (s.bU l (.list xs))):=λQ Ex k=>by
 refine eD (dH r q hl) λzz ys m e h1 ho q1=>?_;obtain rfl:=Qq e;have hn:=q1.dz;simp only[PH,List.length_singleton] at hn;refine aa (q1.Jc (j:=xs.length) (v:=v) (by simp)) λy hy qv=>?_;obtain⟨e1,r1⟩:=jr (X:=X) (f:=λz=>z.eraseIdxIfInBounds (ys.size-1)) (tk:=sh.toks) (vs':=xs) r h1 ho (by
  have:=q1.take xs.length;simp only[List.take_left] at this;have e:(ys.eraseIdxIfInBounds (ys.size-1)).toList=ys.toList.take xs.length:=by rw[Array.toList_eraseIdxIfInBounds,List.eraseIdx_eq_take_drop_succ];rw[show ys.size-1+1=ys.toList.length by simp;omega,List.drop_length,QI,show ys.size-1=xs.length by omega]
  simp only[e];exact this)
 exact call_meets PySem.F.slot_list_pop (ag _ ho rfl) PySem.F.entry_list_pop (PySem.F.args_list_pop_1 _) (MeetsSeq.list_pop_last a ys m y (by refine hn▸?_;exact hy) (by simp only[sizeLine_eq];exact IJ hn hz)) ⟨ho,k _ _ _ e1 r1 (qv.ext e1)⟩
theorem qj{l:Nat}{a:Addr}{xs:List V}{v:V}{t:Tok}(r:aD S g s sh)(q:VR S g sh.heap (.ar l) (.ref a))(hl:s.get l=some (.list (v::xs)))(hz:xs.length<100000):
  W S X A (VR S) (P6 (.builtin "list.pop") [.ref a,.int 0 t]) g sh (.ok v (s.bU l (.list xs))):=λQ Ex k=>by
 refine eD (dH r q hl) λzz ys m e h1 ho q1=>?_;obtain rfl:=Qq e;have hn:=q1.dz;simp only[Q3] at hn;refine aa (q1.Jc (j:=0) (v:=v) (by simp)) λy hy qv=>?_;obtain⟨e1,r1⟩:=jr (X:=X) (f:=λz=>z.eraseIdxIfInBounds 0) (tk:=sh.toks) (vs':=xs) r h1 ho (by
  have:=q1.drop 1;have e:(ys.eraseIdxIfInBounds 0).toList=ys.toList.drop 1:=by
   skip;simp
  simp only[e];exact this)
 exact call_meets PySem.F.slot_list_pop (ag _ ho rfl) PySem.F.entry_list_pop (PySem.F.args_list_pop_2 _ _) (MeetsSeq.list_pop_at a ys m 0 t 0 y (by decide) (by refine(seqIndex_of (by decide) (by omega)).trans ?_;rfl) hy (by simp only[sizeLine_eq];exact IJ hn hz)) ⟨ho,k _ _ _ e1 r1 (qv.ext e1)⟩
theorem w7{l k:Nat}{a:Addr}{xs:List V}{v:V}{y:Value}{t:Tok}(r:aD S g s sh)(q:VR S g sh.heap (.ar l) (.ref a))(hl:s.get l=some (.list xs))(hz:xs.length<100000)(hk:k<100000)(qv:VR S g sh.heap v y):
  W S X A (VR S) (P6 (.builtin "list.insert") [.ref a,.int (k:Int) t,y]) g sh (.ok .none (s.bU l (.list (xs.take k++v::xs.drop k)))):=λQ Ex kq=>by
 refine eD (dH r q hl) λzz ys m e h1 ho q1=>?_;obtain rfl:=Qq e;have hn:=q1.dz;have hnf:∀i:Int,0<=i->i<2^63->¬(!Builtin.List.listFitsIndex i)=true:=λi h0 h1=>by rw[fitsIndex_of h0 h1];decide
 have hnf:=hnf (k:Int) (Int.ofNat_nonneg _) (by omega);obtain⟨e1,r1⟩:=jr (X:=X) (f:=λxs=>have j:=if((k:Int)<0) then((k:Int)+((xs.size:Nat):Int)).toNat else min (k:Int).toNat xs.size;(xs.extract 0 j).push y++xs.extract j) (tk:=sh.toks) (vs':=xs.take k++v::xs.drop k) r h1 ho (by
  have:=(q1.take k).dZ (aI.cons qv (q1.drop k));have hnk:¬((k:Int)<0):=by exact by simp
  have e:(have j:=if((k:Int)<0) then((k:Int)+((ys.size:Nat):Int)).toNat else min (k:Int).toNat ys.size;(ys.extract 0 j).push y++ys.extract j).toList=ys.toList.take k++y::ys.toList.drop k:=by
   simp only[hnk,if_false,RJ];by_cases hlt:k<=ys.size
   .rw[Rx hlt];simp only[Array.toList_append,Array.toList_push,Array.toList_extract,Array.toList_extract];simp only[List.extract_eq_take_drop,Nat.sub_zero,List.drop_zero,Qx,List.singleton_append];rw[List.take_of_length_le (l:=List.drop k ys.toList) (by simp)]
   .rw[Nat.min_eq_right (by omega)];simp[List.take_of_length_le (show ys.toList.length<=k by simp;omega),List.drop_of_length_le (show ys.toList.length<=k by simp;omega)]
  simp only[e];exact this)
 have ty:sh.TypeIs (.ref a) "list":=ag _ ho rfl;have hsz:ys.size<=sizeLine:=by simp only[sizeLine_eq];exact r8 hn hz
 clear hz hk;generalize(k:Int)=kk at*
 have G:=AutoListH.list_insert_list_int_val_1 a ys m kk t y hnf hsz;refine call_meets PySem.F.slot_list_insert ty PySem.F.entry_list_insert (PySem.F.args_list_insert_3 _ _ _) G ?_;exact⟨ho,kq _ _ _ e1 r1 (by rfl)⟩
theorem Bx{l:Nat}{d:Addr}{es:List (V×V)}{vs:List V}{ys:List Value}(hu:A.units+9<cLine)(r:aD S g s sh)(q:VR S g sh.heap (.ar l) (.ref d))(hl:s.get l=some (.dict es))(qs:aI S g sh.heap vs ys):
  W S X A (VR S) (P6 (.builtin "dict.get") (.ref d::ys)) g sh (zw es vs s):=by
 refine qK (eO r q hl) λa ds nn e hgl ho hes hvs hn=>?_;obtain rfl:=Qq e;have hT:sh.TypeIs (.ref d) "dict":=ag _ ho rfl;cases vs with
 |nil=>trivial|cons k vs=>
  cases vs with
  |nil=>
   refine aa qs.fO λkey z1 qk=>?_;obtain rfl:=z1;refine(?_:W S X A (VR S) _ g sh (match aA k with
    |true=>match aE es k with|some v=>.ok v s|.none=>.ok .none s
    |false=>.no 93))
   cases hk:aA k with
   |false=>trivial|true=>
    have go:∀v,(∀v',aE es k=some v'->v=v')->(aE es k=none->v=.none)->W S X A (VR S) (P6 (.builtin "dict.get") [.ref d,key]) g sh (.ok v s):=λv h1 h2=>by
     refine W.bR r λQ Ex kq=>?_;refine wpAny_call_entry RV hT PySem.F.entry_dict_get ?_ (PySem.F.args_dict_get_2 _ _);refine(?_:wpAny _ _ (dictGet d key>>=_) _ _ sh);refine wpAny_bind (dR (A:=A.in1) (by omega) hk qk ho hes hvs hn (λhf tk=>?_) λv' y tk hf qv=>?_)
     .refine wpAny_bind (wpAny_missed_other (ig r hgl) (wpAny_pure (ag _ rfl (kq _ tk ?_))));refine(h2 hf).symm▸?_;exact VR.wC
     .exact wpAny_pure (ag _ rfl (kq _ tk (by refine(h1 v' hf).symm▸?_;exact qv)))
    cases z:aE es k with
    |none=>exact go _ (λv' e=>by replace e:=z.symm.trans e;exact ns e) λzz=>rfl|some v=>exact go _ (λv' e=>by replace e:=z.symm.trans e;refine(PD e)▸?_;rfl) λe=>by rw[z] at e;exact sn e
  |cons dv vs=>
   induction vs with
   |cons _ _=>trivial|nil=>
    refine aw qs.wY λkey dy z2 qk qd=>?_;refine z2▸?_;refine(?_:W S X A (VR S) _ g sh (match aA k with
     |true=>match aE es k with|some v=>.ok v s|.none=>.ok dv s
     |false=>.no 93))
    cases hk:aA k with
    |false=>trivial|true=>
     have go:∀v,(∀v',aE es k=some v'->v=v')->(aE es k=none->v=dv)->W S X A (VR S) (P6 (.builtin "dict.get") [.ref d,key,dy]) g sh (.ok v s):=λv h1 h2=>by
      refine W.bR r λQ Ex kq=>?_;refine wpAny_call_entry RV hT PySem.F.entry_dict_get ?_ (PySem.F.args_dict_get_3 _ _ _);refine(?_:wpAny _ _ (dictGet d key>>=_) _ _ sh);refine wpAny_bind (dR (A:=A.in1) (by omega) hk qk ho hes hvs hn (λhf tk=>?_) λv' y tk hf qv=>?_)
      .refine wpAny_bind (wpAny_missed_other (ig r hgl) (wpAny_pure (ag _ rfl (kq _ tk ?_))));refine(h2 hf).symm▸?_;exact qd
      .exact wpAny_pure (ag _ rfl (kq _ tk ((h1 v' hf)▸qv)))
     cases z:aE es k with
     |none=>exact go _ (λv' e=>by cases z.symm.trans e) λzz=>rfl|some v=>exact go _ (λv' e=>by refine(PD (z.symm.trans e))▸?_;rfl) λe=>by rw[z] at e;exact sn e
theorem zX{l:Nat}{d:Addr}{es:List (V×V)}{dv:V}{vs:List V}{ys:List Value}(hu:A.units+9<cLine)(r:aD S g s sh)(q:VR S g sh.heap (.ar l) (.ref d))(hl:s.get l=some (.view es dv))(qs:aI S g sh.heap vs ys):
  W S X A (VR S) (P6 (.builtin "dict.get") (.ref d::ys)) g sh (x8 es dv 2 vs s):=by
 refine Iy (yl r q hl) λes0 a ds nn e hgl ho hes hvs hn hv=>?_;obtain rfl:=Qq e;have hT:sh.TypeIs (.ref d) "dict":=ag _ ho rfl;cases vs with
 |nil=>trivial|cons k vs=>
  cases vs with
  |nil=>trivial|cons d' vs=>
   induction vs with
   |cons _ _=>trivial|nil=>
    refine aw qs.wY λkey dy z2 qk qd=>?_;refine z2▸?_;refine(?_:W S X A (VR S) _ g sh (match aP (aA k) (aP (aA dv) (aP (aA d') (mG (jk dv d')))) with
     |true=>gN 97 (aE es k) s|false=>.no 97))
    cases hkk:aP (aA k) (aP (aA dv) (aP (aA d') (mG (jk dv d')))) with
    |false=>trivial|true=>
     obtain⟨hk,hk2⟩:=aL.mp hkk;obtain⟨hk2,hk3⟩:=aL.mp hk2;obtain⟨hk3,hk4⟩:=aL.mp hk3;rw[m7 hk2 hk3] at hk4;obtain rfl:=(dg hk2 hk3).mp hk4;cases z:aE es k with
     |none=>trivial|some v=>
      refine W.bR r λQ Ex kq=>?_;refine wpAny_call_entry RV hT PySem.F.entry_dict_get ?_ (PySem.F.args_dict_get_3 _ _ _);refine(?_:wpAny _ _ (dictGet d key>>=_) _ _ sh);refine wpAny_bind (dR (A:=A.in1) (by omega) hk qk ho hes hvs hn (λhf tk=>?_) λv' y tk hf qv=>?_)
      .refine wpAny_bind (wpAny_missed_other (ig r hgl) (wpAny_pure (ag _ rfl (kq _ tk ?_))));clear hk4 hk3 hk2 hkk qs qk z2 hT ho hgl e hvs hes hl q;rcases hv k v z hk with h|⟨_,rfl⟩
       .replace hf:=h.symm.trans hf;exact sn hf
       .exact qd
      .refine wpAny_pure (ag _ rfl (kq _ tk ?_));rcases hv k v z hk with h|⟨h,_⟩
       .rw[h] at hf;exact(PD hf)▸qv
       .rw[h] at hf;exact ns hf
set_option tactic.hygienic true in
theorem By{l:Nat}{a:Addr}{ss:List (List Nat)}{vs:List V}{ys:List Value}(r:aD S g s sh)(q:VR S g sh.heap (.ar l) (.ref a))(hl:s.get l=some (.set ss))(qs:aI S g sh.heap vs ys):
  W S X A (VR S) (P6 (.builtin "set.add") (.ref a::ys)) g sh (Iq l ss vs s):=by
 cases vs with
 |nil=>trivial|cons v vs=>
  induction vs with
  |cons _ _=>trivial|nil=>
   cases v<;>try trivial
   rename_i x;refine aa qs.fO λy z1 qv=>?_;refine z1▸?_;clear z1 qs ys;obtain⟨t,rfl⟩:=qv.bG;refine aO (sv r q hl) λ_ e h1 hS=>?_;obtain rfl:=Qq e;refine(?_:W S X A (VR S) _ g sh (match QT (len ss) 4000 with|true=>(match rV x ss with|true=>.ok .none s|false=>.ok .none (s.bU l (.set (dZ ss [x]))))|false=>.no 94));have mem:∀z,(decide (∃y∈ss,ak y=ak z))=rV z ss:=λz=>by rw[QJ,decide_eq_true_iff,uu];exact⟨λhq0=>aa hq0 λy h1 h2=>gR h2▸h1,λh1=>ag z h1 rfl⟩
   have a9:∀ {h':Heap} {tk:Nat} {ss':List (List Nat)},P0 a sh.heap h'->h'.SetOf (strKind S.prog S.w) a (λz=>decide (∃y∈ss',ak y=z)) ss'.length->aG S X g sh.heap g h'/\aD S g (s.bU l (.set ss')) {sh with heap:=h',toks:=tk}:=λ {h' tk ss'} hs ho=>
    have live:∃o,h'.get? a=some o:=let⟨o,_,_,_,e,_⟩:=ho;⟨o,e⟩
    ⟨aG.a9 r h1 hs live,r.bU h1 hs ho⟩
   cases hz:QT (len ss) 4000 with
   |false=>trivial|true=>
   have hz:ss.length<4000:=by have:=P4 ((hz:Nat.ble ((len ss).succ) 4000=true));rw[aJ] at this;exact this
   dsimp only;cases hx:rV x ss with
   |true=>
    refine λQ Ex k=>call_set_add (ir x t) rfl hS (by show _<4096;omega) λh' hs hS'=>?_
    .rw[mem x,hx,if_pos rfl] at hS';have ef:(λz=>decide (∃y∈ss,ak y=z)||decide (z=ak x))=λz=>decide (∃y∈ss,ak y=z):=by
      funext z;by_cases e:z=ak x
      .subst e;simp only[mem x,hx];simp
      .simp[e]
     replace hS':=ef▸hS';have hz0:=(a9 (tk:=sh.toks+1) hs hS');refine k g _ _ hz0.1 (hz0.2.congr rfl λi=>?_) VR.wC;simp only[St.cF];by_cases e:i=l
     .rw[if_pos e,e];exact hl
     .exact(if_neg e).symm
   |false=>
     refine λQ Ex k=>call_set_add (ir x t) rfl hS (by show _<4096;omega) λh' hs hS'=>?_;rw[mem x,hx,if_neg (by simp)] at hS';have ef:(λz=>decide (∃y∈ss,ak y=z)||decide (z=ak x))=λz=>decide (∃y∈dZ ss [x],ak y=z):=by
      funext z;rw[bx,QJ,Bool.or_eq_true,decide_eq_true_iff,decide_eq_true_iff,decide_eq_true_iff];constructor
      .rintro(⟨y,h1,h2⟩|h)
       .exact ag y (QW _ h1) h2
       .exact ag x (Rj _ (Q9 _)) h.symm
      .rintro hh0;refine aa hh0 λy h1 h2=>?_;rcases QO.mp h1 with h1|h1
       .exact .inl (ag y h1 h2)
       .rw[PI.mp h1] at h2;exact .inr h2.symm
     replace hS':=ef▸hS';have hlen:ss.length+1=(dZ ss [x]).length:=by rw[bx];simp
     simp only[hlen] at hS';have hz00:=(a9 (tk:=sh.toks+1) hs hS');exact k g _ _ hz00.1 hz00.2 VR.wC
set_option tactic.hygienic true in
theorem uW{v:V}{l:List V}{r:List (List Nat)}(h:gD (v::l)=some r):∃x r',v=.str x/\gD l=some r'/\r=x::r':=by
 change (match v with
  |.str x=>match gD l with|some r=>some (x::r)|.none=>.none
  |_=>.none)=_ at h
 cases v<;>try (exact ns h;done)
 rename_i x;dsimp only at h;cases z:gD l with
 |none=>replace h:=z▸h;exact ns h|some r'=>rw[z] at h;exact(PD h)▸(bQ x r' rfl rfl rfl)
theorem aI.GR:∀ {vs:List V} {r:List (List Nat)} {ys:List Value},gD vs=some r->aI S g h vs ys->∃l:List (Str×Tok),ys=strValues l/\l.map (·.1)=r.map ak
 |[],r,ys,h,q=>by refine(PD h)▸?_;refine q.fj.symm▸?_;exact ag ([]) rfl rfl
 |v::vs,r,ys,h,q=>by refine aw (uW h) λx r' z2 h1 z4=>?_;clear h;obtain rfl:=z2;refine z4▸?_;refine aw q.bI λy ys' z2 q1 q2=>?_;refine z2▸?_;clear z2 q z4;obtain⟨t,rfl⟩:=q1.bG;refine aa (aI.GR h1 q2) λl z1 e=>?_;exact z1▸(ag ((ak x,t)::l) rfl (by simp[e]))
theorem lA(sep x y:List Nat)(l:List (List Nat)):eC sep (x::y::l)=x++(sep++eC sep (y::l)):=by refine(?_:dZ x (dZ sep (eC sep (y::l)))=_);simp only[bx,bx]
theorem mj(sep:List Nat):∀(l:List (List Nat)),Builtin.Str.glued (ak sep) (l.map ak)=ak (eC sep l)
 |[]=>rfl|x::l=>by
  unfold Builtin.Str.glued ak;congr 1;have t5:∀(l:List (List Nat)) (acc x:List Nat),acc++eC sep (x::l)=((l.map ak).foldl (λa p=>a++sep.toArray++p.cps) (acc++x).toArray).toList:=by
   intro l;induction l with
   |nil=>intro acc x;rfl|cons y l ih=>intro acc x;simp only[lA,Qe,List.foldl_cons];have:=ih (acc++x++sep) y;simp only[Qx] at this⊢;refine this.trans ?_;simp[ak]
  have:=t5 l [] x;simp only[List.nil_append] at this;refine(?_:(l.map ak).foldl (λa p=>a++sep.toArray++p.cps) (x.toArray)=(eC sep (x::l)).toArray);simp only[this]
theorem w8(sep:List Nat)(a b:Nat)(ha:sep.length<a):∀(l:List (List Nat)),(eC sep l).length<b->(l.map ak).toArray.foldl (· + ·.length+(ak sep).length) 0<a+b:=by
 have t5:∀(l:List (List Nat)) (x:List Nat) (k:Nat),((x::l).map ak).foldl (· + ·.length+(ak sep).length) k=k+(eC sep (x::l)).length+sep.length:=by
  intro l;clear ha b a;induction l with
  |nil=>intro x k;refine(?_:k+(ak x).length+(ak sep).length=_);rw[aR,aR];rfl|cons y l ih=>intro x k;rw[lA,Qe,List.foldl_cons,ih,aR,aR,PH,PH];omega
 intro l hb;rw[List.foldl_toArray];induction l with
 |nil=>exact PZ hb (Q1 _ _)|cons x l=>rw[t5];omega
set_option tactic.hygienic true in
theorem Bz{x:List Nat}{m:Nat}{vs:List V}{t:Tok}{ys:List Value}(hm:m=4)(r:aD S g s sh)(qs:aI S g sh.heap vs ys):
  W S X A (VR S) (P6 (.builtin "str.join") (.str (ak x) t::ys)) g sh (Du x m vs s):=by
 refine hm▸?_;clear hm m;cases vs with
 |nil=>trivial|cons v vs=>
  induction vs with
  |cons _ _=>trivial|nil=>
   cases v<;>try trivial
   rename_i l;refine aa qs.fO λy z1 qv=>?_;refine z1▸?_;refine aw qv.cG λa xs z2 ht q=>?_;refine z2▸?_;refine(?_:W S X A (VR S) _ g sh (match gD l with
    |some r=>match aP (aN (len x)) (aN (len (eC x r))) with|true=>.ok (.str (eC x r)) s|false=>.no 96
    |.none=>.no 96))
   cases hs:gD l with
   |none=>trivial|some r'=>
    dsimp only;cases hz:aP (aN (len x)) (aN (len (eC x r'))) with
    |false=>trivial|true=>
     obtain⟨z1,z2⟩:=aL.mp hz;have z1:=bp z1;have z2:=bp z2;refine aa (q.GR hs) λtl e1 e2=>?_;have hlong:Builtin.Str.tooLong ((tl.map (·.1)).toArray.foldl (· + ·.length+(ak x).length) 0)=false:=by have:=w8 x _ _ z1 r' z2;clear z1 hs q qv qs;refine e2.symm▸?_;unfold Builtin.Str.tooLong;refine sizeLine_eq.symm▸?_;exact decide_eq_false (by omega)
     have G:=gives_joinTail (ak x) tl hlong;refine W.bR r λQ Ex k=>?_;have ty:sh.TypeIs (.ref a) "tuple":=aO ht λo h1 h2 _=>ag o h1 h2;clear hz hs q qv qs;obtain⟨other,tree⟩:=join_tree (ak x) t a;obtain⟨o,h1,h2,n',h3⟩:=ht;refine wpAny_call (codeAny_call_builtin PySem.F.slot_str_join.plain PySem.F.entry_str_join (PySem.F.slot_str_join.check _ _ _ _ _ _ _ _ (typeIs_str _ _ _) (PySem.F.args_str_join_2 _ _) ?_));refine tree.symm▸?_;refine wpAny_bind (wpAny_typeOf ty ?_);refine wpAny_bind (wpAny_seqItems h1 h3 ?_);dsimp only;refine e1.symm▸?_;have done:∀tl:List (Str×Tok),tl.map (·.1)=r'.map ak->(Made.str (Builtin.Str.glued (ak x) (tl.map (·.1)))).post Q sh:=λtl e2=>by
      refine⟨?_,?_⟩
      .simp only[e2,mj,aR,sizeLine_eq];exact Qg (PZ z2 (by decide))
      .simp only[e2,mj];exact k _ _ VR.eE
     clear h3 h2 h1 tree e1 z2;rcases tl with _|⟨p,_|⟨p2,tl⟩⟩
     .exact G S.prog S.w A (wants Q Ex) sh (done [] e2)
     .refine G S.prog S.w A (wants Q Ex) sh ?_;clear z2;cases r' with
      |nil=>exact nomatch e2|cons x1 r1=>
       induction r1 with
       |cons _ _=>simp at e2|nil=>
        have:p.1=ak x1:=by simpa using e2
        refine(?_:Q (.str p.1 p.2) sh);exact this▸k _ sh.toks VR.eE
     .exact G S.prog S.w A (wants Q Ex) sh (done (p::p2::tl) e2)
theorem oF{c:Nat}(h:kR c=true):32<c/\c<127/\c≠34/\c≠39/\c≠92:=by
 unfold kR at h;simp only[aL] at h;refine Ll h λh1 h2 h3 h4 h5=>?_;have ne:∀k,eA (P8 c k)=true->c≠k:=λk hk e=>by rw[(cD c k).mpr e] at hk;exact ft hk
 exact Ib (P4 h1) (P4 h2) (ne _ h3) (ne _ h4) (ne _ h5)
theorem zY:∀c<127,32<c->Unicode.isPrintable c=true:=by decide+kernel
theorem oG{c:Nat}(h:kR c=true):Builtin.Str.reprChar 39 c=[c]:=by
 refine Ll (oF h) λh1 h2 h3 h4 h5=>?_;unfold Builtin.Str.reprChar;have e1:(c==39||c==92)=false:=by simp[h4,h5]
 have e2:(c==10)=false:=by simp;omega
 have e3:(c==13)=false:=by simp;omega
 have e4:(c==9)=false:=by simp;omega
 simp only[e1,e2,e3,e4,zY c h2 h1,if_true,RB,if_false]
theorem oH{x:List Nat}(h:rW x=true):∀c∈x,kR c=true:=by
 induction x with
 |nil=>intro c m;cases m
 |cons a x ih=>
  refine dw (aL.mp h) λh1 h2=>?_;intro c m;clear h;rcases PU.mp m with rfl|m
  .exact h1
  .exact ih h2 c m
theorem w9{l:List (List Nat)}(h:vY l=true):∀x∈l,rW x=true:=by
 induction l with
 |nil=>intro c m;cases m
 |cons a x ih=>
  refine dw (aL.mp h) λh1 h2=>?_;intro c m;clear h;rcases PU.mp m with rfl|m
  .exact h1
  .exact ih h2 c m
theorem oJ{x:List Nat}(h:rW x=true):reprText (ak x)=ak (kQ x):=by
 have hq:reprQuote (ak x)=39:=by
  unfold reprQuote;have:(ak x).cps.contains 39=false:=by
   rw[Bool.eq_false_iff];intro c;have:39∈x:=by simpa [ak] using c
   exact(oF (oH h 39 this)).2.2.2.1 rfl
  refine this.symm▸?_;rfl
 unfold reprText;refine hq.symm▸?_;unfold kQ ak;rw[bx];have t5:∀(l:List Nat) (acc:Array Nat),(∀c∈l,kR c=true)->l.foldl (λqN c=>qN++(Builtin.Str.reprChar 39 c).toArray) acc=acc++l.toArray:=by
  intro l;induction l with
  |nil=>intro acc _;simp|cons c l ih=>intro acc hl;simp only[List.foldl_cons,oG (hl c PJ),ih _ λc m=>hl c (PL _ m)];simp
 congr 1;rw[List.foldl_toArray,t5 x _ (oH h)];simp
theorem sY{a b:Str}(h:a.cps=b.cps):a=b:=by induction a;induction b;subst h;rfl
theorem ja:∀(l:List (List Nat)) (k:Nat) (acc:List Nat),textFrom (k+1) (ak acc) (l.map ak)=ak (acc++(l.map λx=>[44,32]++x).flatten)
 |[],k,acc=>by unfold textFrom;simp
 |x::l,k,acc=>by
  rw[Qe];unfold textFrom;have:(ak acc++(if k+1>0 then ", " else "":String)++ak x:Str)=ak (acc++[44,32]++x):=by refine sY ?_;refine(?_:(acc.toArray++ #[44,32])++x.toArray=_);simp[ak]
  simp only[this,ja l (k+1)];simp
theorem oK(sep:List Nat):∀(x:List Nat) (l:List (List Nat)),eC sep (x::l)=x++(l.map λy=>sep++y).flatten
 |x,[]=>by refine(?_:x=_);simp
 |x,y::l=>by simp only[lA,oK sep y l];simp
theorem oM{l:List (List Nat)}(hl:l≠[]):listText (l.map ak)=ak (91::dZ (eC [44,32] l) [93]):=by
 induction l with
 |nil=>exact absurd rfl hl|cons x l=>
  unfold listText;rw[Qe];unfold textFrom;have:((("[":String):Str)++(if 0>0 then ", " else "":String)++ak x:Str)=ak (91::x):=by refine sY ?_;refine(?_:(#[91]++ #[])++x.toArray=_);simp[ak]
  simp only[this,ja,bx,oK];refine sY ?_;refine(?_:(ak _).cps++ #[93]=_);simp[ak]
theorem oP{h:Heap}:∀(l:List (Str×Tok)),ReadsAll h (strValues l) (l.map λp=>.str p.1) []
 |[]=>.nil|p::l=>by have:=ReadsAll.cons (h:=h) (.str p.1 p.2) (oP l);exact this
theorem oQ:∀(l:List (Str×Tok)),PyData.shownAll (l.map λp=>.str p.1)=l.map λp=>reprText p.1
 |[]=>by simp[PyData.shownAll]
 |p::l=>by simp only[Qe,PyData.shownAll,oQ l];simp[PyData.shown]
theorem jI:∀(l:List (Str×Tok)),PyData.showableAll (l.map λp=>.str p.1)=true
 |[]=>by simp[PyData.showableAll]
 |p::l=>by simp only[Qe,PyData.showableAll,jI l];simp[PyData.showable]
theorem oR:∀(l:List (Str×Tok)),PyData.depthAll (l.map λp=>.str p.1)=0
 |[]=>by simp[PyData.depthAll]
 |p::l=>by simp only[Qe,PyData.depthAll,oR l];simp[PyData.depth]
theorem kD:∀(l:List (Str×Tok)),PyData.hasDictAll (l.map λp=>.str p.1)=false
 |[]=>by simp[PyData.hasDictAll]
 |p::l=>by simp only[Qe,PyData.hasDictAll,kD l];simp[PyData.hasDict]
set_option tactic.hygienic true in
theorem BA{v:V}{y:Value}{x:List Nat}{Q:Ec}{Ex:Ec}(hg:A.guards=some [])(hu:A.units+8<cLine)(r:aD S g s sh)(q:VR S g sh.heap v y)(hx:zu v s=some x)(hz:x.length<100000)
  (k:∀h' tk t,(∀b o,sh.heap.get? b=some o->h'.get? b=some o)->Q (.str (ak x) t) {sh with heap:=h',toks:=tk}):wpAny S.M A (convS y) (λr s₂=>wpAny S.M A (formatField r Str.empty) Q Ex s₂) Ex sh:=by
 have hz':(ak x).length<=sizeLine:=by skip;exact Qg (PZ hz (by decide))
 cases v<;>try (exact ns hx;done)
 .injection hx with hx;subst hx;obtain⟨t,rfl⟩:=q.bG;exact SB.convS_str (λt' k'=>SB.field_str (λt'' k''=>k sh.heap _ _ λ_ _ e=>e) hz') hz'
 .rename_i l;change (match s.get l with
   |some (.list vs)=>match gD vs with
    |some xs=>match aP (Ld xs) (vY xs) with
     |true=>some (91::dZ (eC [44,32] (xs.map kQ)) [93])|false=>.none
    |.none=>.none
   |_=>.none)=_ at hx
  split at hx
  .rename_i vs hvs;split at hx
   .rename_i xs hxs;split at hx
    .rename_i hpl;obtain⟨p1,p2⟩:=aL.mp hpl;injection hx with hx;subst hx;refine eD (dH r q hvs) λa ys m z3 h1 ho q1=>?_;refine z3▸?_;refine aa (q1.GR hxs) λtl e1 e2=>?_;have hne:xs.map kQ≠[]:=by clear q1 h1 z3 hz hpl hxs hvs q;induction xs with
      |nil=>exact ft p1|cons _ _=>simp
     have rd:Reads sh.heap (.ref a) (.list (tl.map λp=>.str p.1)) [a]:=.list ho rfl rfl (by refine e1.symm▸?_;exact oP tl);have hsh:PyData.shown (.list (tl.map λp=>.str p.1))=ak (91::dZ (eC [44,32] (xs.map kQ)) [93]):=by simp only[PyData.shown,oQ,<-oM hne];congr 1;simp only[show(tl.map λp=>reprText p.1)=(tl.map (·.1)).map reprText by simp,e2,List.map_map,List.map_map];refine List.map_congr_left λx hx=>?_;exact oJ (w9 p2 x hx)
     refine convS_of_reads (h₀:=sh.heap) rd (by simp[PyData.showable,jI]) (by simp[PyData.hasDict,kD]) hg (by simp only[PyData.depth,oR];exact Gd hu rfl) (λ_ _ e=>e) (λh' u tk hk=>?_) (by rw[hsh];exact hz');refine hsh.symm▸?_;exact SB.field_str (s:={sh with heap:=h',toks:=tk}) (λt'' k''=>k h' _ _ hk) hz'
    .exact ns hx
   .exact ns hx
  .exact ns hx
noncomputable def GS (S:SI) (hN:Bool) (n:Nat) (sc:Sc) (ctx:Ctx) (c:Code V) (pe:PE):Prop:=
 ∀A g s sh lo env,bX S hN n sc A g s sh lo env->∀v s1 x,c ctx lo s=.ok v s1->zu v s1=some x->x.length<100000->
  ∀(Q:Ec) (Ex:Ec),(∀g' sh' t,aG S [] g sh.heap g' sh'.heap->aD S g' s1 sh'->Q (.str (ak x) t) sh')->wpAny S.M A (eval pe env) Q Ex sh
theorem Jp{x:List Nat}{k pos}:GS S hN n sc ctx (e.str x) (.Constant (.str (ak x)) k pos):=λA g s sh lo env p v s1 x' h1 h2 hz Q Ex hq=>by injection h1 with u v;subst v;subst u;injection h2 with h2;exact h2▸wpAny_Constant_str (hq g {sh with toks:=sh.toks+1} _ .refl p.r.Gl)
theorem Jq{c:Code V}{pe:PE}{pos:Pos}(w:aF S hN n sc ctx c pe):GS S hN n sc ctx c (.FormattedValue pe 115 none pos):=λA g s sh lo env p v s1 x h1 h2 hz Q Ex hq=>by have w:=w A g s sh lo env p;simp only[h1] at w;refine wpAny_FormattedValue_s (w _ _ λg' sh' y e1 r1 q1=>?_);have p1:=p.step e1 r1;exact BA (Q:=Q) (Ex:=Ex) p1.a.gd (by have:=p1.a.units;exact ul this rfl) r1 q1 h2 hz λh' tk t hk=>hq g' {sh' with heap:=h',toks:=tk} t (e1.trans (aG.bq hk)) (r1.bq hk)
theorem W.bb{t:Sem α}{r:R β}(w:W S X A V1 t g sh r):W S X A V1 t g sh (Mp.bb r):=by
 induction r with
 |ok _ _=>exact w|ez _ _=>trivial|no _=>trivial
theorem W.uX{β':Type}{V2:Gh->Heap->β'->α->Prop}{t:Sem α}{r:R β}{k:β->St->R β'}(hk:∀b s,∃w,k b s=.no w):W S X A V2 t g sh ((Mp.bb r).bind k):=by
 induction r with
 |ok b s=>obtain⟨w,e⟩:=hk b s;refine(?_:W S X A V2 t g sh (k b s));simp only[e];trivial
 |ez _ _=>trivial|no _=>trivial
theorem bM.plain{cs:List (Code V)}{pes:List PE}(q:bM S hN n sc ctx cs pes)(env:PM):(starEach pes env).any (·.1)=false/\(starEach pes env).all (λx=> !x.1)=true:=by
 induction q with
 |nil=>exact⟨rfl,rfl⟩|cons _ _ h _ ih=>rw[eP h];simp[ih.1,ih.2]
theorem lB{o:PE}{name:Str}{apos pos:Pos}{args:List PE}{cs:List (Code V)}{env:PM}{ov:Value}{Q:Ec}{Ex:Ec}(hl:(apos.endLine==pos.line)=true)(hn:args.length<30)
  (q:bM S hN n sc ctx cs args) (h:wpAny S.M A (getMethod ov name (do return(<-importBound o env).getD true)) (λfx s'=>wpAny S.M A (callWith pos fx.1 fx.2 (starEach args env) []) Q Ex s') Ex sh):
  wpAny S.M A (standAt apos.atName>>=λzz=>methodCall o name apos pos env ov (args.length+([]:List Keyword).length) (backTo pos (starEach args env)) (backToKw pos (keywordEach [] env))) Q Ex sh:=by
 refine wpAny_bind (wpAny_standAt ?_);rw[aY q];have hform:methodCallForm (args.length+([]:List Keyword).length) (starEach args env) (backToKw pos (keywordEach [] env))=true:=by unfold methodCallForm;refine((q.plain env).2).symm▸?_;refine(?_:(true&&true&&decide (args.length+0+0<30))=true);simp;omega
 unfold methodCall;refine hform.symm▸?_;refine wpAny_bind (wpAny_holding (wpAny_mono h (λfx s' h'=>?_) λzz zz x=>x));have hpos:methodCallPos true o env apos pos=P2 pos:=by unfold methodCallPos;simp[hl]
 exact wpAny_bind (wpAny_of_eq hpos h')
theorem et{o:PE}{name:Str}{id:String}{T:String}{apos pos:Pos}{args:List PE}{cs:List (Code V)}{lo:Lo}{env:PM}{ov:Value}{k:List V->St->R V}(hl:(apos.endLine==pos.line)=true)(hn:args.length<30)
  (q:bM S hN n sc ctx cs args) (p:bX S hN n sc A g s sh lo env) (hT:sh.TypeIs ov T) (pa:PlainAttrs T) (slot:Slot T name id) (hty:typeOf (.builtin id)=P2 (.type "method_descriptor")) (hd:∀a,ov=.ref a->∃o,sh.heap.get? a=some o/\o.dict=none)
  (c:∀vs s1 g1 sh1 ys,aG S [] g sh.heap g1 sh1.heap->bX S hN n sc A g1 s1 sh1 lo env->aI S g1 sh1.heap vs ys->W S [] A (VR S) (P6 (.builtin id) (ov::ys)) g1 sh1 (k vs s1)):
  W S [] A (VR S) (standAt apos.atName>>=λzz=>methodCall o name apos pos env ov (args.length+([]:List Keyword).length) (backTo pos (starEach args env)) (backToKw pos (keywordEach [] env))) g sh ((Mp.bb (gO cs ctx lo s)).bind k):=by
 refine W.oh (f:=λys=>P6 (.builtin id) (ov::ys)) (W.bb (eQ q p)) (λQ Ex h=>?_) λvs s1 g1 sh1 ys zz e1 r1 q1=>c vs s1 g1 sh1 ys e1 (p.step e1 r1) q1;refine lB hl hn q (getMethod_builtin hT pa slot hty hd ?_);exact Rd (q.plain env).1 (bJ q (wpAny_mono h (λys s' h'=>h'.2) λzz zz e=>e))
noncomputable def mq:Nat->Option Str
 |0=>some "append"|1=>some "pop"|2=>some "get"|3=>some "insert"|4=>some "join"|6=>some "add"|_=>none
theorem BB{l:Nat}{xs:List V}{m:Nat}(h0:m≠0)(h1:m≠1)(h3:m≠3)(vs:List V)(s:St):∃w,j4 l xs m vs s=.no w:=
 match m,h0,h1,h3 with
 |0,h,_,_=>(h rfl).elim|1,_,h,_=>(h rfl).elim|2,_,_,_=>⟨_,rfl⟩|3,_,_,h=>(h rfl).elim|_+4,_,_,_=>⟨_,rfl⟩
theorem BC{es:List (V×V)}{d:V}{m:Nat}(h2:m≠2)(vs:List V)(s:St):∃w,x8 es d m vs s=.no w:=by
 unfold x8;split
 .exact absurd rfl h2
 .exact⟨_,rfl⟩
theorem BD{es:List (V×V)}{m:Nat}(h0:m≠2)(vs:List V)(s:St):∃w,qI es m vs s=.no w:=by
 unfold qI;split
 .exact absurd rfl h0
 .exact⟨_,rfl⟩
theorem D3{l:Nat}{ss:List (List Nat)}{m:Nat}(h0:m≠6)(vs:List V)(s:St):∃w,F5 l ss m vs s=.no w:=by
 unfold F5;split
 .exact absurd rfl h0
 .exact⟨_,rfl⟩
theorem D4{x:List Nat}{m:Nat}(h0:m≠4)(vs:List V)(s:St):∃w,Du x m vs s=.no w:=by
 unfold Du;split
 .exact absurd rfl h0
 .exact⟨_,rfl⟩
set_option tactic.hygienic true in
theorem zZ{l m:Nat}{a:Addr}{xs:List V}{vs:List V}{ys:List Value}{nm id:String}(hm:lz m=some (nm,id))(r:aD S g s sh)(q:VR S g sh.heap (.ar l) (.ref a))(hl:s.get l=some (.list xs))(qs:aI S g sh.heap vs ys):
  W S X A (VR S) (P6 (.builtin id) (.ref a::ys)) g sh (j4 l xs m vs s):=by
 unfold lz at hm;split at hm
 .cases hm;unfold j4;cases vs with
  |nil=>trivial|cons v vs=>cases vs with
   |cons _ _=>trivial|nil=>
    refine aa qs.fO λy z1 qv=>?_;refine z1▸?_;dsimp only;cases z:aN (len xs) with
    |false=>trivial|true=>dsimp only;rw[bx];exact wZ r q hl (bp z) qv
 .cases hm;unfold j4;cases z:aN (len xs) with
  |false=>trivial|true=>
   have hz:=bp z;dsimp only;cases vs with
   |nil=>
    refine qs.fj▸?_;dsimp only;rw[nK];rcases List.eq_nil_or_concat xs with rfl|⟨xs',v,rfl⟩
    .trivial
    .rw[List.concat_eq_append,List.reverse_append,List.reverse_singleton,List.singleton_append];simp only[nK,List.reverse_reverse];rw[List.concat_eq_append] at hl hz;rw[PH] at hz;exact sX r q hl (Qg hz)
   |cons v vs=>induction vs with
    |cons _ _=>trivial|nil=>
     refine aa qs.fO λy z1 qv=>?_;refine z1▸?_;cases v<;>try trivial
     rename_i k;dsimp only;obtain⟨t,rfl⟩:=qv.aB;cases hk:kP k 0 with
     |false=>trivial|true=>
      rw[ej] at hk;refine hk▸?_;induction xs with
      |nil=>trivial|cons v xs=>exact qj r q hl (Qg hz)
 .cases hm;unfold j4;cases vs with
  |nil=>trivial|cons k vs=>cases vs with
   |nil=>trivial|cons v vs=>induction vs with
    |cons _ _=>trivial|nil=>
     refine aw qs.wY λy1 y2 z2 q1 q2=>?_;clear qs;refine z2▸?_;cases k<;>try trivial
     rename_i k;obtain⟨t,rfl⟩:=q1.aB;dsimp only;clear q1;induction k with
     |negSucc _=>trivial|ofNat k=>
      dsimp only;cases z:aP (aN (len xs)) (aN k) with
      |false=>trivial|true=>obtain⟨z1,z2⟩:=aL.mp z;simp only[bx,eN,eh];exact w7 r q hl (bp z1) (gw z2) q2
 .exact ns hm
theorem cU.absent{h:Heap}{name:Str}(hn:name∉S.nm){fs:List (Nat×V)}{ds:List DictEntry}(q:cU S g h fs ds):ds.find? (·.key.isStr name)=none/\ds.any (·.refKey)=false:=by
 induction q with
 |nil=>exact⟨rfl,rfl⟩|@cons y v e fs es t h1 h2 h3 _ ih=>
  have hk:e.key.isStr name=false:=by rw[h1];refine(?_:(S.n y==name)=false);rw[beq_eq_false_iff_ne];intro e';refine hn ?_;refine e'▸?_;unfold SI.n;rw[PK h2];exact List.getElem_mem h2
  have hr:e.refKey=false:=by unfold DictEntry.refKey;rw[h1]
  exact⟨by simp only[List.find?_cons,hk];exact ih.1,by simp only[List.any_cons,hr,ih.2];rfl⟩
noncomputable def nh (K:Frag) (C:Addr) (name:Str) (fa:Addr):Bool:=
 (findIn K (.ref C) "__getattribute__"==some (some (.builtin "object.__getattribute__")))&&((findIn K (.ref C) "__getattr__"==some none)&&((findIn K (.ref C) name==some (some (.ref fa)))&&((typeIn K (.ref fa)==some (.type "function"))&&AN (λzz=>true) (K.lookup fa))))
noncomputable def SI.BE (S:SI) (P:G) (fns:List Addr) (m:Nat) (name:Str):Prop:=
 name∉S.nm/\∀(c:Nat) (ca:Addr),S.cls[c]?=some ca->∃cl:Cl,P.cls[c]?=some cl/\∀f,iR cl.d8 m=some f->∃fa,fns[f]?=some fa/\nh S.K ca name fa=true
theorem sZ{P:G}{k d m f:Nat}(h:Dv P k d m s=some f):∃fs cl,s.get d=some (.ns fs)/\aZ P.cls k=some cl/\iR cl.d8 m=some f:=by
 unfold Dv at h;refine cJ (s.get d) (λe=>?_) λo e=>?_
 .rw[e] at h;exact ns h
 .rw[e] at h;cases o
  case ns=>
   refine cJ (aZ P.cls k) (λe2=>?_) λcl e2=>?_
   .dsimp only at h;rw[e2] at h;exact ns h
   .dsimp only at h;rw[e2] at h;exact⟨_,cl,e,e2,h⟩
  all_goals exact ns h
theorem xc{K:Frag}{C:Addr}{name:Str}{fa:Addr}(h:nh K C name fa=true):findIn K (.ref C) "__getattribute__"=some (some (.builtin "object.__getattribute__"))/\findIn K (.ref C) "__getattr__"=some none/\findIn K (.ref C) name=some (some (.ref fa))/\typeIn K (.ref fa)=some (.type "function")/\
  ∃oc od fd osl,K.lookup fa=some ⟨oc,od,.func fd,osl⟩:=
 ⟨eq_of_beq (aj h),eq_of_beq (aj (ab h)),eq_of_beq (aj (ab (ab h))),eq_of_beq (aj (ab (ab (ab h)))),r7 (ab (ab (ab (ab h)))) λoc od fd osl h zz=>⟨oc,od,fd,osl,h⟩⟩
theorem D5(m:Nat):(∃nm id,lz m=some (nm,id))\/(m≠0/\m≠1/\m≠3):=by
 unfold lz;split
 .exact .inl (gb _ _ rfl)
 .exact .inl (gb _ _ rfl)
 .exact .inl (gb _ _ rfl)
 .exact .inr (j2 (by assumption) (by assumption) (by assumption))
theorem xd{m:Nat}{nm id:String}(h:lz m=some (nm,id)):∃name:Str,mq m=some name/\Slot "list" name id/\typeOf (.builtin id)=P2 (.type "method_descriptor"):=by
 unfold lz at h;split at h
 .injection h with h;injection h with u v;subst u;subst v;exact bk _ rfl PySem.F.slot_list_append PySem.F.type_list_append
 .injection h with h;injection h with u v;subst u;subst v;exact bk _ rfl PySem.F.slot_list_pop PySem.F.type_list_pop
 .injection h with h;injection h with u v;subst u;subst v;exact bk _ rfl PySem.F.slot_list_insert PySem.F.type_list_insert
 .exact ns h
set_option tactic.hygienic true in
theorem GU{P:G}{fns:List Addr}{m:Nat}{name:Str}{c:Code V}{o:PE}{apos pos:Pos}{cs:List (Code V)}{args:List PE}(hF:iy S fns n ctx.call)(hO:cR ctx.call)(hm:mq m=some name/\(∀(k:Nat) (cl:Cl),P.cls[k]?=some cl->iR cl.d8 m=none)\/(mq m=none/\S.BE P fns m name))
  (hb:jP o=true) (hl:(apos.endLine==pos.line)=true) (hn:args.length<30) (w:aF S true n sc ctx c o) (q:bM S true n sc ctx cs args):aF S true n sc ctx (e.aH P c m cs) (.Call (.Attribute o name apos) args [] pos):=λA g s sh lo env p=>by
 refine(?_:W S [] A (VR S) (attributeBase o name env (eval o env)>>=λov=>standAt apos.atName>>=λ_=>methodCall o name apos pos env ov (args.length+([]:List Keyword).length) (backTo pos (starEach args env)) (backToKw pos (keywordEach [] env))) g sh _);rw[jQ hb];refine w.bind p λv s1 g1 sh1 y e1 p1 q1=>?_;have nameOf:∀nm,mq m=some nm->name=nm:=λnm h=>by
  rcases hm with⟨hm,_⟩|⟨hm,_⟩
  .rw[h] at hm;refine(PD hm)▸?_;rfl
  .rw[h] at hm;exact sn hm
 cases v<;>try trivial
 .rename_i x;obtain⟨t,rfl⟩:=q1.bG;by_cases h4:m=4
  .have:=nameOf "join" (congrArg _ h4);exact this▸et hl hn q p1 (typeIs_str _ _ _) PySem.F.plainAttrs_str PySem.F.slot_str_join PySem.F.type_str_join (λa e=>by cases e) λvs s2 g2 sh2 ys e2 p2 qs=>Bz h4 p2.r qs
  .exact W.uX (D4 h4)
 .rename_i l;dsimp only;split
  .rename_i xs0 hget;refine eD (dH p1.r q1 hget) λa xs nn z3 hg1 ho qq=>?_;obtain rfl:=z3;rcases D5 m with⟨nm,id,hid⟩|⟨h0,h1,h3⟩
   .refine aO (xd hid) λname' k1 k2 k3=>?_;have:=nameOf _ k1;refine this▸?_;refine et hl hn q p1 (ag _ ho rfl) PySem.F.plainAttrs_list k2 k3 (λa' e=>by exact(Qq e)▸(ag _ ho rfl)) λvs s2 g2 sh2 ys e2 p2 qs=>?_;split
    .rename_i xs2 hx2;exact zZ hid p2.r (q1.ext e2) hx2 qs
    .trivial
   .exact W.uX (λvs s2=>by
     split
     .exact BB h0 h1 h3 vs s2
     .exact⟨_,rfl⟩)
  .rename_i es0 hget;refine eD (eO p1.r q1 hget) λa ds nn z3 hg1 ho _=>?_;obtain rfl:=z3;by_cases h2:m=2
   .have:=nameOf "get" (congrArg _ h2);refine this▸?_;refine et hl hn q p1 (ag _ ho rfl) PySem.F.plainAttrs_dict RV PySem.F.type_dict_get (λa' e=>by exact(Qq e)▸(ag _ ho rfl)) λvs s2 g2 sh2 ys e2 p2 qs=>?_;split
    .rename_i es2 hx2;subst h2;exact Bx (by have:=p2.a.units;exact ul this rfl) p2.r (q1.ext e2) hx2 qs
    .trivial
   .exact W.uX (λvs s2=>by
     split
     .exact BD h2 vs s2
     .exact⟨_,rfl⟩)
  .rename_i ss0 hget;refine aO (sv p1.r q1 hget) λa z1 hg1 hS=>?_;obtain rfl:=z1;by_cases h6:m=6
   .have:=nameOf "add" (congrArg _ h6);refine this▸?_;refine et hl hn q p1 hS.typeIs PySem.F.plainAttrs_set PySem.F.slot_set_add PySem.F.type_set_add hS.noDict λvs s2 g2 sh2 ys e2 p2 qs=>?_;split
    .rename_i ss2 hx2;exact h6▸By p2.r (q1.ext e2) hx2 qs
    .trivial
   .exact W.uX (λvs s2=>by
     split
     .exact D3 h6 vs s2
     .exact⟨_,rfl⟩)
  .rename_i es0 dv0 hget;refine ye (yl p1.r q1 hget) λes1 a ds nn z4 hg1 ho _=>?_;obtain rfl:=z4;by_cases h2:m=2
   .have:=nameOf "get" (congrArg _ h2);clear nameOf p;refine this▸?_;refine et hl hn q p1 (ag _ ho rfl) PySem.F.plainAttrs_dict RV PySem.F.type_dict_get (λa' e=>by exact(Qq e)▸(ag _ ho rfl)) λvs s2 g2 sh2 ys e2 p2 qs=>?_;split
    .rename_i es2 dv2 hx2;subst h2;exact zX (by have:=p2.a.units;exact ul this rfl) p2.r (q1.ext e2) hx2 qs
    .trivial
   .exact W.uX (λvs s2=>by
     split
     .exact BC h2 vs s2
     .exact⟨_,rfl⟩)
  .trivial
 .rename_i k d;dsimp only;split
  .rename_i f hf;rcases hm with⟨_,hm⟩|⟨_,hm⟩
   .refine aw (sZ hf) λfs cl h1 h2 h3=>?_;rw[bz] at h2;replace h3:=(hm k cl h2).symm.trans h3;exact ns h3
   .have key:∃fa oc od fd osl,fns[f]?=some fa/\S.K.lookup fa=some ⟨oc,od,.func fd,osl⟩/\∀(pl:Sem Bool) (Q:Value×List Value->Shared->Prop) (Ex:Ec),Q (.ref fa,[y]) sh1->wpAny S.M A (getMethod y name pl) Q Ex sh1:=by
     refine aw (sZ hf) λfs cl h1 h2 h3=>?_;refine uf (ik p1.r q1 h1) λx da ca ds nn z5 k1 k2 k3 k4 k5 I=>?_;refine z5▸?_;refine aa (hm.2 k ca k2) λcl' e1 e2=>?_;rw[bz,e1] at h2;obtain rfl:=PD h2;refine aa (e2 f h3) λfa e3 e4=>?_;obtain⟨m1,m2,m3,m4,oc,od,fd,osl,m5⟩:=xc e4;have hz0:=(k5.absent hm.1);exact Fq fa oc od fd osl e3 m5 (λpl Q Ex h=>method_fn (wD p1.r) I m1 m2 m3 m4 (by refine(?_:(lookIn name _).map _=_);refine(lZ hz0.1 hz0.2).symm▸?_;rfl) h)
    refine AM key λfa oc od fd osl e3 m5 get=>?_;refine W.oh (f:=λys=>P6 (.ref fa) (y::ys)) (W.bb (eQ q p1)) (λQ Ex h=>?_) λvs s2 g2 sh2 ys _ e2 r2 q2=>?_
    .refine lB hl hn q (get _ _ _ ?_);refine Calls.callWith_function (o:=⟨oc,od,.func fd,osl⟩) (fd:=fd) (bJ q (wpAny_mono h (λvs s' h'=>?_) λ_ _ e=>e));refine dw h' λzz0 h'=>?_;refine mZ zz0 λg1 s1 r1=>?_;exact⟨⟨wD r1 _ _ m5,rfl⟩,h'⟩
    .exact CF.w (hO f _ s2) (hF.2 f fa e3 A g2 s2 sh2 _ _ ((p1.step e2 r2).a.c) r2 (aI.cons (q1.ext e2) q2))
  .trivial
noncomputable def jb (K:Frag) (ca fI:Addr):Bool:=
 keepIn K (.ref ca)&&makesIn K ca&&(findIn K (.ref ca) "__init__"==some (some (.ref fI)))&&(typeIn K (.ref fI)==some (.type "function"))
theorem uY(ca:Addr)(rest:List Value)(kw:List (Str×Value)):(Code.builtin "type.__call__" ⟨.ref ca::rest,kw⟩).weight=1/\(Code.builtin "type.__call__" ⟨.ref ca::rest,kw⟩).cUnits=1/\(Code.builtin "type.__call__" ⟨.ref ca::rest,kw⟩).envs=[]/\(Code.builtin "type.__call__" ⟨.ref ca::rest,kw⟩).guards=[]:=by
 have hg:(Code.builtin "type.__call__" ⟨.ref ca::rest,kw⟩).isGuard=false:=by refine(?_:guardIds.contains "type.__call__"=false);decide+kernel
 refine Ia ?_ rfl rfl ?_
 .unfold Code.weight;rw[hg];rfl
 .unfold Code.guards;rw[hg];rfl
theorem uZ(ca:Addr)(rest:List Value)(kw:List (Str×Value)):(A.under (.builtin "type.__call__" ⟨.ref ca::rest,kw⟩)).depth<=A.depth+1/\(A.under (.builtin "type.__call__" ⟨.ref ca::rest,kw⟩)).units<=A.units+1/\
  (A.under (.builtin "type.__call__" ⟨.ref ca::rest,kw⟩)).handled=A.handled/\(A.under (.builtin "type.__call__" ⟨.ref ca::rest,kw⟩)).guards=A.guards/\(A.under (.builtin "type.__call__" ⟨.ref ca::rest,kw⟩)).frames=A.frames:=by
 refine Lk (uY ca rest kw) λh1 h2 h3 h4=>?_;unfold Around.under;dsimp only;refine Ib (P5 _) (P5 _) rfl ?_ ?_
 .cases A.guards<;>rfl
 .cases A.frames<;>rfl
theorem D6{fns:List Addr}{k:Nat}{ca fI:Addr}{mH:Nat}{vs:List V}{ys:List Value}(hF:iy S fns n ctx.call)(hO:cR ctx.call)(hc:S.cls[k]?=some ca)(hn:jb S.K ca fI=true)(hi:fns[mH]?=some fI)
  (a:Dl S true n A sh.heap) (r:aD S g s sh) (q:aI S g sh.heap vs ys):
  W S [] A (VR S) (P6 (.ref ca) ys) g sh ((ctx.call mH (.bc k s.n::vs) (s.new (.ns []))).bind λv s'=>match v with|.none=>.ok (.bc k s.n) s'|_=>.no 113):=by
 unfold jb at hn;simp only[QP,beq_iff_eq] at hn;refine dw hn λzz1 k4=>?_;refine dw zz1 λzz0 k3=>?_;obtain⟨k1,k2⟩:=zz0;have K0:=wD r;refine dw (aD.alloc (X:=[]) (o:=.ns []) (ob:=emptyDict) (tk:=sh.toks) r rfl (bW (#[]) (0) (PQ _ rfl) .nil)) λr1 e1=>?_;have r2:=r1.push (tk:=sh.toks) (instObj ca sh.heap.objs.size);have e2:aG S [] g sh.heap (g.add sh.heap.objs.size) ((sh.heap.push emptyDict).push (instObj ca sh.heap.objs.size)):=e1.trans (aG.push _);have hobj:((sh.heap.push emptyDict).push (instObj ca sh.heap.objs.size)).get? (sh.heap.objs.size+1)=some (instObj ca sh.heap.objs.size):=by have:=PQ (h:=sh.heap.push emptyDict) (o:=instObj ca sh.heap.objs.size) rfl;rw[Heap.size_push] at this;exact this
 have qo:VR S (g.add sh.heap.objs.size) ((sh.heap.push emptyDict).push (instObj ca sh.heap.objs.size)) (.bc k s.n) (.ref (sh.heap.objs.size+1)):=by exact qL _ _ _ rfl (Gh.gU r _) hc hobj
 clear hobj e1 r1;cases hcall:ctx.call mH (.bc k s.n::vs) (s.new (.ns [])) with
 |no w=>trivial|ez k s'=>exact absurd hcall (hO _ _ _ _ _)|ok v s'=>
  cases v<;>try trivial
  refine λQ Ex hq=>wpAny_call ?_;obtain⟨hh,gg,dd,tt,os⟩:=sh;refine make_core (makes_of K0 k2) (looks_findIn K0 k3) (λself=>bind_fn K0 self k4) (.inl rfl) ?_;refine Ll (uZ (A:=A) ca ys []) λu1 u2 u3 u4 u5=>?_;have cok:Dn S n (A.under (.builtin "type.__call__" ⟨.ref ca::ys,[]⟩)) ((hh.push emptyDict).push (instObj ca hh.objs.size)):=by have:=a.depth;have:=a.units;refine⟨by omega,by exact MV this,u3.trans (a.hd rfl),u4.trans a.gd,?_⟩;refine aO a.fr λl f1 f2 f3=>?_;exact bk l (u5.trans f1) (FunFrames.ext e2 r r2 f2) (gm.ext e2 r f3)
  have cf:=hF.2 mH fI hi _ _ _ _ (.bc k s.n::vs) (.ref (hh.objs.size+1)::ys) cok r2 (aI.cons qo (q.ext e2));simp only[hcall] at cf;refine cf _ λg' sh' y e3 r3 q3=>?_;exact q3.el▸⟨rfl,hq g' sh' _ (e2.trans e3) r3 (qo.ext e3)⟩
theorem Jr{P:G}{fns:List Addr}{k:Nat}{ca fI:Addr}{cl:Cl}{y:Str}{np pos:Pos}{cs:List (Code V)}{pes:List PE}(hF:iy S fns n ctx.call)(hO:cR ctx.call)(hP:P.cls[k]?=some cl)(hc:S.cls[k]?=some ca)(hn:jb S.K ca fI=true)(hi:fns[cl.mH]?=some fI)
  (hk:sc.lookup y=some .globalImplicit) (hd:(y==("__debug__":Str))=false) (hv:S.cQ y=some (.ref ca)) (q:bM S true n sc ctx cs pes):aF S true n sc ctx (e.new P k cs) (.Call (.Name y np) pes [] pos):=λA g s sh lo env p=>by
 refine(?_:W S [] A (VR S) (eval (.Name y np) env>>=λfv=>callWith pos fv [] (backTo pos (starEach pes env)) (backToKw pos (keywordEach [] env))) g sh ((gO cs ctx lo s).bind λvs s=>match aZ P.cls k with
  |some cl=>(ctx.call cl.mH (.bc k s.n::vs) (s.new (.ns []))).bind λv s'=>match v with|.none=>.ok (.bc k s.n) s'|_=>.no 113
  |.none=>.no 113))
 rw[aY q,bz,hP];refine W.oh (f:=λys=>P6 (.ref ca) ys) (eQ q p) (λQ Ex h=>?_) λvs s1 g1 sh1 ys zz e1 r1 q1=>?_
 .refine wpAny_bind (dm p hk hv hd ?_);have hkeep:keepIn S.K (.ref ca)=true:=by
   unfold jb at hn;simp only[QP] at hn;exact hn.1.1.1
  refine callWith_of (P:=S.K.In) (by rw[(q.plain env).1];rfl) (keeps_K hkeep) (bJ q (wpAny_mono h (λvs s' h'=>?_) λzz zz e=>e));refine dw h' λzz0 h'=>?_;refine mZ zz0 λg1 s1 r1=>?_;exact⟨wD r1,h'⟩
 .exact D6 hF hO hc hn hi ((p.step e1 r1).a) r1 q1
theorem lC{a:Addr}{o:O}{tk:Nat}(r:aD S g s sh)(hk:∀b o,sh.heap.get? b=some o->h'.get? b=some o)(ha:sh.heap.get? a=none)(ho:OR S (g.add a) h' a o):
  aG S X g sh.heap (g.add a) h'/\aD S (g.add a) (s.new o) {sh with heap:=h',toks:=tk}/\VR S (g.add a) h' (.ar s.n) (.ref a):=by
 have r':=r.bq (h':=h') (tk:=tk) hk;refine j2 ((aG.bq hk).uj ha) (r'.uj (λm=>?_) (r.fresh ha) ho) ?_
 .obtain⟨i,hi⟩:=PR.mp m;refine aa (r.bc i a hi) λo' zz h2=>?_;refine aa h2.get λob h3 zz=>?_;rw[ha] at h3;exact ns h3
 .unfold VR;exact ag a (Gh.gU r a) rfl
set_option tactic.hygienic true in
theorem D7{v:V}{y:Value}{k:Int}(r:aD S g s sh)(q:VR S g sh.heap v y)(hk:ud v s=some k):W S X A (VR S) (P6 (.builtin "len") [y]) g sh (.ok (.int k) s):=by
 have lenR_inv:∀ {γ:Type} {l:List γ} {k:Int},nE l=some k->l.length<100000/\k=l.length:=λ {γ l k} h=>by
  unfold nE at h;refine cy (aN (len l)) (λz=>?_) λz=>?_
  .simp only[z] at h;exact ns h
  .rw[z] at h;exact(PD h)▸⟨bp z,by rw[aJ]⟩
 refine W.bR r λQ Ex kq=>?_;cases v<;>try (exact ns hk;done)
 .rename_i x;obtain⟨t,rfl⟩:=q.bG;obtain⟨h1,rfl⟩:=lenR_inv (show nE x=some k from hk);refine P.len_str (by rw[aR];exact MY h1) ?_;exact kq _ _ VR.mkInt
 .rename_i vs;refine aw q.cG λa xs z2 ht qs=>?_;refine z2▸?_;refine dw (lenR_inv (show nE vs=some k from hk)) λh1 z1=>?_;obtain rfl:=z1;have:=qs.dz;refine len_tuple (i0 ht) (by omega) ?_;refine this▸?_;exact kq _ _ VR.mkInt
 .rename_i l;unfold ud at hk;dsimp only at hk;split at hk
  .rename_i vs hvs;refine bK (cg r q hvs) λa xs z2 _ hl qs=>?_;obtain rfl:=z2;obtain⟨h1,rfl⟩:=lenR_inv hk;have:=qs.dz;refine len_list hl (by omega) ?_;refine this▸?_;exact kq _ _ VR.mkInt
  .rename_i ss hss;obtain⟨a,rfl,_,o,es,ep,t,h1,h2,h3,h4,h5,h6,h7,h8⟩:=sv r q hss;refine dw (lenR_inv hk) λ_ z1=>?_;obtain rfl:=z1;refine call_len_set h1 h2 h3 h7 (by have:scanBound=4096:=rfl;lia) ?_;refine h8.symm▸?_;exact kq _ _ VR.mkInt
  .exact ns hk
set_option tactic.hygienic true in
theorem oU:∀ {l:List V} {b:Bool} {ys:List Value},vZ l=some b->aI S g h l ys->∃bs,LSm.BoolsAre ys bs/\bs.all id=b
 |[],b,ys,hb,q=>by injection hb with hb;subst hb;refine q.fj.symm▸?_;exact ag ([]) .nil rfl
 |v::l,b,ys,hb,q=>by
  refine aw q.bI λy ys' z2 q1 q2=>?_;clear q;refine z2▸?_;change (match v with|.bool b=>(match vZ l with|some r=>some (aP b r)|.none=>.none)|_=>.none)=_ at hb;cases v<;>try (exact ns hb;done)
  rename_i c;have:y=.bool c:=by exact q1
  clear q1 z2 ys;refine this▸?_;dsimp only at hb;refine cJ (vZ l) (λz=>?_) λr z=>?_
  .replace hb:=z▸hb;exact ns hb
  .rw[z] at hb;clear this y;injection hb with hb;subst hb;refine aa (oU z q2) λbs h1 h2=>?_;exact ag (c::bs) (.cons _ h1) (by simp only[List.all_cons,h2];induction c<;>rfl)
theorem D8{l:Nat}{a:Addr}{vs:List V}{b:Bool}(hh:A.handled=none)(r:aD S g s sh)(q:VR S g sh.heap (.ar l) (.ref a))(hl:s.get l=some (.list vs))(hb:vZ vs=some b):
  W S X A (VR S) (P6 (.builtin "all") [.ref a]) g sh (.ok (.bool b) s):=λQ Ex k=>by
 refine bK (cg r q hl) λzz xs e zz hL q1=>?_;obtain rfl:=Qq e;refine aa (oU hb q1) λbs h1 h2=>?_;have hlt:a<sh.heap.objs.size:=by obtain⟨_,e,_⟩:=hL;exact Rk e
 refine call_all_walk (wpAny_pyIter_list hL ?_);refine⟨sh.heap.objs.size,[sh.heap.objs.size,a],[sh.heap.objs.size],xs.size,_,_,λi=>(bs[i]?).getD true,rfl,Walks.list (A:=A.in1) hh _ a (Qw hlt) xs,
  ⟨(bk _ (PQ _ rfl) rfl rfl),hL.push _⟩,λi v s' Q' E' hP hQ=>?_,λh' tk hk=>?_⟩
 .refine aa (h1.get i v (by simpa using hP)) λc e z2=>?_;refine z2▸?_;simp only[e,Option.getD_some] at hQ;exact wpAny_truthy_bool hQ
 .have keep:∀b o,sh.heap.get? b=some o->h'.get? b=some o:=λb x e=>hk b x (λhm=>by rw[PI.mp hm] at e;exact RP _ (Rk e)) (PO _ e);have e:((RA xs.size).all λi=>(bs[i]?).getD true)=b:=by
   have:=h1.length;rw[show xs.size=bs.length by refine this▸?_;simp,<-h2];rw[QJ,Rq,Rq];constructor
   .intro h b hb;refine PW (PR.mp hb) λi hi=>?_;have:=h i (RF.mpr (PX.mp hi).1);replace this:=hi▸this;exact this
   .intro h i hi;have hi:=RF.mp hi;exact(PK hi)▸h _ (List.getElem_mem hi)
  refine e.symm▸?_;exact k g _ _ (aG.bq keep) (r.bq (h':=h') (tk:=tk) keep) VR.AZ
theorem z8{l:Nat}{a:Addr}{vs:List V}(r:aD S g s sh)(q:VR S g sh.heap (.ar l) (.ref a))(hl:s.get l=some (.list vs))(hz:vs.length<100000):
  W S X A (VR S) (P6 (.type "tuple") [.ref a]) g sh (.ok (.av vs) s):=λQ Ex k=>by
 refine bK (cg r q hl) λzz xs e zz hL q1=>?_;refine(Qq e)▸?_;have hn:=q1.dz;refine call_tuple_list hL (λh' hk=>?_) (by simp only[sizeLine_eq];exact r8 hn hz);have keep:∀b o,sh.heap.get? b=some o->(h'.push {cls:=.type "tuple",data:=.seq xs}).get? b=some o:=λb o e=>PO _ (hk b o e);refine k g {sh with heap:=h'.push {cls:=.type "tuple",data:=.seq xs}} _ (aG.bq keep) (r.bq (tk:=sh.toks) keep) ?_;exact bQ _ xs rfl ⟨_,PQ _ rfl,rfl,_,rfl⟩ (q1.ext (aG.bq (S:=S) (X:=[]) keep))
theorem s8{y:Value}{vs:List V}(r:aD S g s sh)(q:VR S g sh.heap (.av vs) y)(hz:vs.length<100000):
  W S X A (VR S) (P6 (.type "list") [y]) g sh (.ok (.ar s.n) (s.new (.list vs))):=λQ Ex k=>by
 refine aw q.cG λa xs z2 zz0 qs=>?_;refine z2▸?_;obtain⟨o,h1,h2,m,h3⟩:=zz0;have hn:=qs.dz;refine call_list_seq a (.inr rfl) h1 h2 h3 (λh' c' hk hnew=>?_) (by simp only[sizeLine_eq];exact r8 hn hz);refine nI (lC (X:=X) (o:=.list vs) (tk:=sh.toks) r hk (Qf (P5 _)) (bW xs c' hnew (aI.up (Up.uj g _ _) (qs.ext (aG.bq (S:=S) (X:=[]) hk))))) λe1 r1 q1=>?_;exact k _ _ _ e1 r1 q1
theorem z9{x:List Nat}{acc:Array Value}(hi:ItemsOf (SignAt (ak x)) acc x.length):aI S g h (x.map λc=>V.str [c]) acc.toList:=by
 have t5:∀(l:List Nat) (ys:List Value),l.length=ys.length->(∀(j:Nat) (v:Value),ys[j]?=some v->∃(c:Nat) (t:Tok),l[j]?=some c/\v=Value.str ⟨#[c]⟩ t)->aI S g h (l.map λc=>V.str [c]) ys:=by
  intro l;induction l with
  |nil=>intro ys hl _;clear a;induction ys with
   |nil=>exact aI.nil|cons _ _=>cases hl
  |cons c l ih=>
   intro ys hl hv;induction ys with
   |nil=>cases hl
   |cons y ys=>refine a8 (hv 0 y rfl) λc' t e1 z3=>?_;refine z3▸?_;exact(PD e1)▸aI.cons VR.eE (ih ys (by simpa using hl) λj v e=>hv (j+1) v e)
 refine t5 x acc.toList (by skip;exact hi.1.symm) λj v e=>?_;refine a8 (hi.2 j v (by simpa using e)) λc u hc hv=>?_;exact bW c u (by simpa [ak] using hc) hv
theorem s9{x:List Nat}{t:Tok}(hh:A.handled=none)(r:aD S g s sh)(hz:x.length<100000):
  W S X A (VR S) (P6 (.type "list") [.str (ak x) t]) g sh (.ok (.ar s.n) (s.new (.list (x.map λc=>V.str [c])))):=λQ Ex k=>by
 refine call_list_str hh (ak x) t (λh' tk acc c' hk hnew hi=>?_) (by refine(?_:x.toArray.size<=_);skip;simp;exact Qg (PZ hz (by decide)));have hi':ItemsOf (SignAt (ak x)) acc x.length:=by
  have e:(ak x).cps.size=x.length:=by simp[ak]
  skip;exact hi
 refine nI (lC (X:=X) (o:=.list (x.map λc=>V.str [c])) (tk:=tk) r hk (Qf (P5 _)) (bW acc c' hnew (z9 hi'))) λe1 r1 q1=>?_;exact k _ _ _ e1 r1 q1
theorem BF(r:aD S g s sh):W S X A (VR S) (P6 (.type "set") []) g sh (.ok (.ar s.n) (s.new (.set []))):=λQ Ex k=>by
 refine call_set_0 λled=>?_;have keep:∀b o,sh.heap.get? b=some o->(sh.heap.push {cls:=.type "set",dict:=none,data:=.set #[] 0 (.fresh 0 0 led)}).get? b=some o:=λb o e=>PO _ e;have S0:=(setObjOf_fresh (knd:=strKind S.prog S.w) led).setOf (PQ sh.heap (o:={cls:=.type "set",dict:=none,data:=.set #[] 0 (.fresh 0 0 led)}) rfl) (by decide);have e0:(λx=>decide (∃y∈([]:List (List Nat)),ak y=x))=λ_:Str=>false:=by funext x;simp
 obtain⟨e1,r1,q1⟩:=lC (X:=X) (o:=.set []) (tk:=sh.toks) r keep (Qf (P5 _)) (by
  show Heap.SetOf _ _ _ _ _;refine e0.symm▸?_;exact S0)
 exact k _ _ _ e1 r1 q1
theorem D9{i j:Int}{t u:Tok}(hh:A.handled=none)(r:aD S g s sh):W S X A (VR S) (P6 (.builtin "min") [.int i t,.int j u]) g sh (.ok (.int (@PS (λzz=>Int) i j (gM j i))) s):=λQ Ex k=>by
 refine min_two_ints hh λh' tk hk=>?_;refine k g {sh with heap:=h',toks:=tk} _ (aG.bq hk) (r.bq hk) ?_;have e:gM j i=decide (j<i):=sf j i;simp only[e];by_cases h:j<i
 .rw[if_pos h,decide_eq_true h];exact VR.mkInt
 .rw[if_neg h,decide_eq_false h];exact VR.mkInt
theorem Ea{i j:Int}{t u:Tok}(hh:A.handled=none)(r:aD S g s sh):W S X A (VR S) (P6 (.builtin "max") [.int i t,.int j u]) g sh (.ok (.int (@PS (λzz=>Int) i j (gM i j))) s):=λQ Ex k=>by
 refine max_two_ints hh λh' tk hk=>?_;refine k g {sh with heap:=h',toks:=tk} _ (aG.bq hk) (r.bq hk) ?_;have e:gM i j=decide (i<j):=sf i j;simp only[e];by_cases h:j>i
 .rw[if_pos h,decide_eq_true h];exact VR.mkInt
 .rw[if_neg h,decide_eq_false h];exact VR.mkInt
noncomputable def td (K:Frag) (C fa:Addr):Bool:=(findIn K (.ref C) "__len__"==some (some (.ref fa)))&&isFn K (.ref fa)
noncomputable def SI.BG (S:SI) (P:G) (fns:List Addr):Prop:=∀(c:Nat) (ca:Addr),S.cls[c]?=some ca->∃cl:Cl,P.cls[c]?=some cl/\∀f,iR cl.d8 100=some f->∃fa,fns[f]?=some fa/\td S.K ca fa=true
set_option tactic.hygienic true in
theorem BH{P:G}{fns:List Addr}{k d:Nat}{y:Value}(hF:iy S fns n ctx.call)(hO:cR ctx.call)(hL:S.BG P fns)(a:Dl S true n A sh.heap)(r:aD S g s sh)(q:VR S g sh.heap (.bc k d) y):
  W S [] A (VR S) (P6 (.builtin "len") [y]) g sh (Dx P ctx k d s):=by
 unfold Dx;split
 .rename_i f hf;refine aw (sZ hf) λfs cl h1 h2 h3=>?_;refine uf (ik r q h1) λx da ca ds nn z5 k1 k2 k3 k4 k5 I=>?_;obtain rfl:=z5;refine aa (hL k ca k2) λcl' e1 e2=>?_;rw[bz,e1] at h2;obtain rfl:=PD h2;refine aa (e2 f h3) λfa e3 e4=>?_;unfold td at e4;rw[QP,beq_iff_eq] at e4;cases hc:ctx.call f [.bc k d] s with
  |no w=>trivial|ez k s'=>exact absurd hc (hO _ _ _ _ _)|ok v s'=>
   refine(?_:W S [] A (VR S) _ g sh (x9 v s'));cases v<;>try trivial
   rename_i i;refine(?_:W S [] A (VR S) _ g sh (match aP (gM (-1) i) (small i) with|true=>.ok (.int i) s'|false=>.no 102));cases hi:aP (gM (-1) i) (small i) with
   |false=>trivial|true=>
    obtain⟨i1,i2⟩:=aL.mp hi;refine dw (kl i2) λb1 b2=>?_;have i1: -1<i:=by rw[sf] at i1;simpa using i1
    refine λQ Ex kq=>?_;have cf:=hF.2 f fa e3 A.in1 g s sh [.bc k d] [.ref x] a.c1 r (aI.fU q);simp only[hc] at cf;refine Calls.call_function_entry kind_len plain_len entry_len (args_len1 _) ?_;refine wpAny_bind (m:=PySem.oneArg "len" _) (wpAny_pure ?_);refine wpAny_bind (m:=callSpecial? (.ref x) (sj "__len__")) (special_fn (wD r) I e4.1 (beq_iff_eq.mp e4.2) (wpAny_call (cf _ λg' sh' y' ex rx qx=>?_)));refine PW qx.aB λt z1=>?_;obtain rfl:=z1;refine wpAny_bind (wpAny_holding (wpAny_pure ?_));refine wpAny_bind (wpAny_letGo ?_);rw[if_neg (by omega)];refine(?_:wpAny _ _ (if i≥2^63 then _ else _) _ _ _);rw[if_neg (by omega)];exact wpAny_bind (wpAny_mkInt (wpAny_pure (ag _ rfl (kq g' {sh' with toks:=sh'.toks+1} _ ex (rx.Gl) VR.mkInt))))
 .trivial
noncomputable def yE:List (Nat×Value):=[(0,.builtin "len"),(3,.builtin "min"),(4,.builtin "max"),(6,.builtin "all"),(9,.type "tuple"),(10,.type "list"),(11,.type "set")]
noncomputable def ti (b:Nat):Option Value:=yE.lookup b
noncomputable def Js (C:Nat->Value->Prop):List (Nat×Value)->Prop
 |[]=>True|p::l=>C p.1 p.2/\Js C l
theorem iz{C:Nat->Value->Prop}{b:Nat}{fv:Value}:∀ {l:List (Nat×Value)},Js C l->l.lookup b=some fv->C b fv
 |[],_,h=>ns h|(k,v)::l,a,h=>by
  rw[Qi] at h;cases e:b==k with
  |true=>rw[e] at h;exact eq_of_beq e▸PD h▸a.1
  |false=>rw[e] at h;exact iz a.2 h
theorem BI(l:Nat)(s:St):ed 6 (.ar l) s=match s.get l with
   |some (.list vs)=>match aN (len vs) with
    |true=>(match vZ vs with|some r=>.ok (.bool r) s|.none=>.no 82)|false=>.no 82
   |_=>.no 83:=rfl
theorem BJ(l:Nat)(s:St):ed 9 (.ar l) s=match s.get l with
   |some (.list vs)=>(match aN (len vs) with|true=>.ok (.av vs) s|false=>.no 86)|_=>.no 86:=rfl
theorem xe(vs:List V)(s:St):ed 10 (.av vs) s=match aN (len vs) with|true=>.ok (.ar s.n) (s.new (.list vs))|false=>.no 87:=rfl
theorem xf(x:List Nat)(s:St):ed 10 (.str x) s=match aN (len x) with|true=>.ok (.ar s.n) (s.new (.list (x.map λc=>.str [c])))|false=>.no 87:=rfl
set_option tactic.hygienic true in
theorem oW{b:Nat}{fv:Value}{v:V}{y:Value}(hb:ti b=some fv)(hh:A.handled=none)(r:aD S g s sh)(q:VR S g sh.heap v y):W S X A (VR S) (P6 fv [y]) g sh (ed b v s):=by
 refine iz (C:=λb fv=>W S X A (VR S) (P6 fv [y]) g sh (ed b v s)) (l:=yE) (LC ?_ ?_ ?_ ?_ ?_ ?_ ?_ trivial) hb
 .refine(?_:W S X A (VR S) (P6 (.builtin "len") [y]) g sh (match ud v s with|some n=>.ok (.int n) s|.none=>.no 80));cases z:ud v s with
  |none=>trivial|some k=>exact D7 r q z
 .trivial
 .trivial
 .refine(?_:W S X A (VR S) (P6 (.builtin "all") [y]) g sh (ed 6 v s));cases v<;>try trivial
  rename_i l;rw[BI];split
  .rename_i vs hvs;obtain⟨a,xs,rfl,_⟩:=cg r q hvs;cases z:aN (len vs) with
   |false=>trivial|true=>
    dsimp only;cases z2:vZ vs with
    |none=>trivial|some c=>exact D8 hh r q hvs z2
  .trivial
 .refine(?_:W S X A (VR S) (P6 (.type "tuple") [y]) g sh (ed 9 v s));cases v<;>try trivial
  rename_i l;rw[BJ];split
  .rename_i vs hvs;obtain⟨a,xs,rfl,_⟩:=cg r q hvs;cases z:aN (len vs) with
   |false=>trivial|true=>exact z8 r q hvs (bp z)
  .trivial
 .refine(?_:W S X A (VR S) (P6 (.type "list") [y]) g sh (ed 10 v s));cases v<;>try trivial
  .rename_i x;rw[xf];refine PW q.bG λt z1=>?_;refine z1▸?_;cases z:aN (len x) with
   |false=>trivial|true=>exact s9 hh r (bp z)
  .rename_i vs;rw[xe];cases z:aN (len vs) with
   |false=>trivial|true=>exact s8 r q (bp z)
 .trivial
theorem xg{b:Nat}{fv:Value}{v w:V}{y z:Value}(hb:ti b=some fv)(hh:A.handled=none)(r:aD S g s sh)(q:VR S g sh.heap v y)(q2:VR S g sh.heap w z):W S X A (VR S) (P6 fv [y,z]) g sh (nG b v w s):=by
 unfold nG;cases v<;>try trivial
 cases w<;>try trivial
 obtain⟨t,rfl⟩:=q.aB;obtain⟨u,rfl⟩:=q2.aB;exact iz (C:=λb fv=>W S X A (VR S) (P6 fv [.int _ t,.int _ u]) g sh (nG b (.int _) (.int _) s)) (l:=yE) (LC trivial (D9 hh r) (Ea hh r) trivial trivial trivial trivial trivial) hb
theorem oX{b:Nat}{fv:Value}{vs:List V}{ys:List Value}(hb:ti b=some fv)(hh:A.handled=none)(r:aD S g s sh)(q:aI S g sh.heap vs ys):W S X A (VR S) (P6 fv ys) g sh (v5 b vs s):=by
 unfold v5;cases vs with
 |nil=>
  rw[q.fj];dsimp only;cases z:P8 b 11 with
  |false=>trivial|true=>obtain rfl:=(cD _ _).mp z;exact(PD hb)▸BF r
 |cons v vs=>
  cases vs with
  |nil=>refine aa q.fO λy z1 q1=>?_;exact z1▸oW hb hh r q1
  |cons w vs=>
   induction vs with
   |nil=>refine aw q.wY λy z z2 q1 q2=>?_;exact z2▸xg hb hh r q1 q2
   |cons _ _=>trivial
theorem Aa{b:Nat}{fv:Value}{pos:Pos}{args:List (Bool×Sem Value)}{Q:Ec}{Ex:Ec}(hb:ti b=some fv)(hp:args.any (·.1)=false)
  (h:wpAny S.M A (evalArgs fv true args []) (λa s₁=>wpAny S.M A (P6 fv ([]++a.pos) a.kw) Q Ex s₁) Ex sh):wpAny S.M A (callWith pos fv [] args []) Q Ex sh:=by
 exact iz (C:=λb fv=>wpAny S.M A (evalArgs fv true args []) (λa s₁=>wpAny S.M A (P6 fv ([]++a.pos) a.kw) Q Ex s₁) Ex sh->wpAny S.M A (callWith pos fv [] args []) Q Ex sh) (l:=yE)
  (LC (Rd hp) (Rd hp) (Rd hp) (Rd hp) (PySem.callWith_type hp) (PySem.callWith_type hp) (PySem.callWith_type hp) trivial) hb h
set_option tactic.hygienic true in
theorem Eb{P:G}{fns:List Addr}{b:Nat}{fv:Value}{y:Str}{np pos:Pos}{cs:List (Code V)}{pes:List PE}(hF:iy S fns n ctx.call)(hO:cR ctx.call)(hL:S.BG P fns)(hb:ti b=some fv)
  (hk:sc.lookup y=some .globalImplicit) (hd:(y==("__debug__":Str))=false) (hv:S.cQ y=some fv) (q:bM S true n sc ctx cs pes):aF S true n sc ctx (e.aS P b cs) (.Call (.Name y np) pes [] pos):=λA g s sh lo env p=>by
 refine(?_:W S [] A (VR S) (eval (.Name y np) env>>=λfv=>callWith pos fv [] (backTo pos (starEach pes env)) (backToKw pos (keywordEach [] env))) g sh _);rw[aY q];refine W.oh (f:=λys=>P6 fv ys) (eQ q p) (λQ Ex h=>?_) λvs s1 g1 sh1 ys _ e1 r1 q1=>?_
 .refine wpAny_bind (dm p hk hv hd ?_);exact Aa hb (q.plain env).1 (bJ q (wpAny_mono h (λvs s' h'=>h'.2) λ_ _ e=>e))
 .have a1:=(p.step e1 r1).a;have hh:=a1.hd rfl;cases vs with
  |nil=>exact oX hb hh r1 q1|cons v vs=>
   induction vs with
   |cons _ _=>exact oX hb hh r1 q1|nil=>
    obtain⟨z,rfl,q2⟩:=q1.fO;clear q1 e1 p q hv hd hk;cases v<;>try exact oW hb hh r1 q2
    rename_i k d;dsimp only;cases z0:P8 b 0 with
    |false=>trivial|true=>obtain rfl:=(cD _ _).mp z0;exact(PD hb)▸BH hF hO hL a1 r1 q2
theorem xh{t:Sem Value}{ob:Obj}{vs:Array Value}{it:It}{F:List Addr}{h0:Heap}(r:aD S g s sh)(hF:∀z∈F,∃o,sh.heap.get? z=some o)(hd:∀z,sh.heap.get? z=none->h0.get? z=none)(hk:∀b o,sh.heap.get? b=some o->h'.get? b=some o)
  (h1:ob.data=.fields vs) (h2:ob.cls≠ .type "frame") (h3:kO S g (h'.push ob) it h'.objs.size [h'.objs.size])
  (rule:∀(Q:Ec) (Ex:Ec),(∀tk,Q (.ref h'.objs.size) {sh with heap:=h'.push ob,toks:=tk})->wpAny S.M A t Q Ex sh):W S [] A (VI S F h0) t g sh (.ok it s):=λQ Ex k=>
 rule Q Ex λtk=>by
  have r1:=r.bq (h':=h') (tk:=tk) hk;have keep:∀b o,sh.heap.get? b=some o->(h'.push ob).get? b=some o:=λb o e=>PO _ (hk b o e);refine k g {sh with heap:=h'.push ob,toks:=tk} _ (aG.bq keep) (r.bq keep) (cZ _ _ rfl h3 (λz hz=>?_) (λz hz=>?_))
  .simp only[PI.mp hz];exact uR r1 (λz m=>PW (hF z m) λo e=>⟨o,hk z o e⟩) h1 h2
  .rw[PI.mp hz];refine hd _ ?_;cases z0:sh.heap.get? h'.objs.size with
   |none=>rfl|some o=>have:=hk _ _ z0;rw[dj] at this;exact ns this
theorem ng{ty:String}(h:(ty=="frame")=false):(Value.type ty)≠ .type "frame":=λe=>by injection e with e;rw[e] at h;exact absurd h (by decide)
theorem R.Ed{β:Type}(x:R β):x.bind (λb s=>.ok b s)=x:=by induction x<;>rfl
theorem lD{T:String}{y:Str}{np pos:Pos}{cs:List (Code V)}{pes:List PE}{k:List V->St->R β}{V1:Gh->Heap->β->Value->Prop}(hk:sc.lookup y=some .globalImplicit)(hd:(y==("__debug__":Str))=false)(hv:S.cQ y=some (.type T))(q:bM S hN n sc ctx cs pes){lo:Lo}{env:PM}(p:bX S hN n sc A g s sh lo env)
  (c:∀vs s1 g1 sh1 ys,aG S [] g sh.heap g1 sh1.heap->bX S hN n sc A g1 s1 sh1 lo env->aI S g1 sh1.heap vs ys->W S [] A V1 (P6 (.type T) ys) g1 sh1 (k vs s1)):
  W S [] A V1 (eval (.Call (.Name y np) pes [] pos) env) g sh ((gO cs ctx lo s).bind k):=by
 refine(?_:W S [] A V1 (eval (.Name y np) env>>=λfv=>callWith pos fv [] (backTo pos (starEach pes env)) (backToKw pos (keywordEach [] env))) g sh _);rw[aY q];refine W.oh (f:=λys=>P6 (.type T) ys) (eQ q p) (λQ Ex h=>?_) λvs s1 g1 sh1 ys zz e1 r1 q1=>c vs s1 g1 sh1 ys e1 (p.step e1 r1) q1;refine wpAny_bind (dm p hk hv hd ?_);exact PySem.callWith_type (q.plain env).1 (bJ q (wpAny_mono h (λvs s' h'=>h'.2) λzz zz e=>e))
theorem GV{VP:Gh->Heap->It->Value->Prop}{pe:PE}{env:PM}{r:R It}{h0:Heap}{F:List Addr}(hs:i8 pe=true)(w:W S [] A VP (eval pe env) g sh r)
  (c:∀it g1 s1 sh1 y,r=.ok it s1->aG S [] g sh.heap g1 sh1.heap->aD S g1 s1 sh1->VP g1 sh1.heap it y->W S [] A (VI S F h0) (pyIter y) g1 sh1 (.ok it s1)):W S [] A (VI S F h0) (m8 pe env) g sh r:=by
 have:=W.bind (f:=λx=>foldedSetIterable pe env x>>=λx=>standAt pe.pos>>=λzz=>holding [x] (pyIter x)) (k:=λb s=>.ok b s) (V2:=VI S F h0) w λit s1 g1 sh1 y he e1 r1 q1=>by rw[cH hs];exact W.rule (t:=standAt pe.pos>>=λzz=>holding [y] (pyIter y)) (W.aT (W.dW (c it g1 s1 sh1 y he e1 r1 q1))) λQ Ex k=>wpAny_bind (wpAny_pure k)
 simp only[R.Ed] at this;exact this
noncomputable def xi:Gh->Heap->It->Value->Prop:=λg h it y=>∃r i m t u v,y=.ref r/\it=.range i m/\IsRange h r i m 1 t u v/\Builtin.Range.small i m 1=true
theorem oY(i m:Int):Builtin.Range.rangeSize i m 1=max 0 (m-i):=by rw[rangeSize_one];exact QN (λh:i<m=>(if_pos h).trans (Int.max_eq_right (Int.le_of_lt (Int.sub_pos.mpr h))).symm) λh=>(if_neg h).trans (Int.max_eq_left (Int.sub_nonpos_of_le (Ru.mp h))).symm
theorem u0{k:Int}(h:small k=true): -(2^62)<=k/\k<2^62:=by have:=(gV k).mp h;exact LJ this
theorem jt{t:Sem Value}{a b:Int}{ta tb:Value}{r:aD S g s sh}(ha:small a=true)(hb:small b=true){x y z:Tok}{tk:Nat}
  (rule:∀(Q:Ec) (Ex:Ec),Q (.ref sh.heap.objs.size) {sh with heap:=sh.heap.push {cls:=.type "range",data:=.fields #[.int a x,.int b y,.int 1 z]},toks:=tk}->wpAny S.M A t Q Ex sh):
  W S [] A xi t g sh (.ok (.range a b) s):=λQ Ex k=>by
 have hz0:=(u0 ha);have hz00:=(u0 hb);exact rule Q Ex (k g {sh with heap:=sh.heap.push {cls:=.type "range",data:=.fields #[.int a x,.int b y,.int 1 z]},toks:=tk} _ (aG.push _) (r.push (tk:=tk) _) ⟨_,a,b,x,y,z,rfl,rfl,IsRange.new _ _ _ _ _ _ _,small_one hz0.1 hz0.2 hz00.1 hz00.2⟩)
set_option tactic.hygienic true in
theorem Ee{y:Str}{np pos:Pos}{cs:List (Code V)}{pes:List PE}(hk:sc.lookup y=some .globalImplicit)(hd:(y==("__debug__":Str))=false)(hv:S.cQ y=some (.type "range"))(q:bM S hN n sc ctx cs pes):zR S hN n sc ctx (j5 1 cs) (.Call (.Name y np) pes [] pos):=λA g s sh lo env p=>by
 refine GV (VP:=xi) rfl (lD hk hd hv q p λvs s1 g1 sh1 ys e1 p1 q1=>?_) λit g1 s1 sh1 y he e1 r1 q1=>?_
 .cases vs with
  |nil=>trivial|cons a vs=>
   cases vs with
   |nil=>
    refine aa q1.fO λz z1 q2=>?_;refine z1▸?_;cases a<;>try trivial
    rename_i m;obtain⟨t,rfl⟩:=q2.aB;dsimp only;cases hm:small m with
    |false=>trivial|true=>exact jt (r:=p1.r) (ta:=.none) (tb:=.none) (by decide) hm λQ Ex k=>call_range_1 k
   |cons b vs=>
    induction vs with
    |cons _ _=>trivial|nil=>
     refine aw q1.wY λz1 z2 z2 q2 q3=>?_;refine z2▸?_;clear z2 q hv hd hk;cases a<;>try trivial
     cases b<;>try trivial
     rename_i i m;obtain⟨t,rfl⟩:=q2.aB;obtain⟨u,rfl⟩:=q3.aB;dsimp only;cases hm:aP (small i) (small m) with
     |false=>trivial|true=>exact jt (r:=p1.r) (ta:=.none) (tb:=.none) (aL.mp hm).1 (aL.mp hm).2 λQ Ex k=>call_range_2 k
 .refine yf q1 λr i m t u v z6 z7 hr hsm=>?_;refine z6▸?_;refine z7▸?_;refine xh r1 (fB (p.step e1 r1).e) (λz=>e1.dG) (λ_ _ e=>e) rfl (ng (by decide)) (.range (PQ _ rfl) (oY i m)) λQ Ex k=>wpAny_pyIter_range hr hsm ?_;exact k sh1.toks
theorem u6{F:List Addr}{ob:Obj}{vs:Array Value}{a:Addr}(r:aD S g s sh)(hF:∀z∈F,∃o,sh.heap.get? z=some o)(ha:sh.heap.get? a=none)(hob:h'.get? a=some ob)(hd:ob.data=.fields vs)(hc:ob.cls≠ .type "frame"):jS S F g h' a:=by
 refine⟨λm=>?_,λm=>?_,λm=>?_,r.fresh ha,ob,vs,hob,hd,hc⟩
 .obtain⟨i,hi⟩:=PR.mp m;refine aa (r.bc i a hi) λo' zz h2=>?_;refine aa h2.get λob h3 zz=>?_;rw[ha] at h3;exact nomatch h3
 .refine aa (r.bH _ m) λo h1 zz=>?_;rw[ha] at h1;exact nomatch h1
 .obtain⟨o,h1⟩:=hF _ m;replace h1:=ha.symm.trans h1;exact ns h1
theorem rq{it:It}{F:List Addr}{h0:Heap}{tk:Nat}{b:Addr}{ob:Obj}{vb:Array Value}(r:aD S g s sh)(hF:∀z∈F,∃o,sh.heap.get? z=some o)(hd:∀z,sh.heap.get? z=none->h0.get? z=none)
  (hk:∀b o,sh.heap.get? b=some o->h'.get? b=some o) (he:IsEnum h' (sh.heap.objs.size+1) sh.heap.objs.size 0 .none) (hb:h'.get? sh.heap.objs.size=some ob) (hbd:ob.data=.fields vb) (hbc:ob.cls≠ .type "frame")
  (cE:kO S g h' it (sh.heap.objs.size+1) [sh.heap.objs.size+1,sh.heap.objs.size]):aG S [] g sh.heap g h'/\aD S g s {sh with heap:=h',toks:=tk}/\VI S F h0 g h' it (.ref (sh.heap.objs.size+1)):=by
 have d0:sh.heap.get? sh.heap.objs.size=none:=dj _;have d1:sh.heap.get? (sh.heap.objs.size+1)=none:=Qf (R5 _);refine⟨aG.bq hk,r.bq hk,_,_,rfl,cE,λz hz=>?_,λz hz=>?_⟩
 .rcases PU.mp hz with rfl|hz
  .exact u6 r hF d1 he rfl (ng (by decide))
  .refine(PI.mp hz).symm▸?_;exact u6 r hF d0 hb hbd hbc
 .rcases PU.mp hz with rfl|hz
  .exact hd _ d1
  .exact(PI.mp hz)▸hd _ d0
set_option tactic.hygienic true in
set_option maxRecDepth 100000 in
theorem iO(l:Addr)(o:Obj)(items:Array Value)(n:Nat)(hc:o.cls=.type "tuple")(hdt:o.data=.seq items n):
  Meets (Builtin.«enumerate.__new__» ⟨[.type "enumerate",.ref l],[]⟩) (λ_ R s=>s.heap.get? l=some o/\
   R (.ok (.ret (.ref (s.heap.push {cls:=.type "tuple_iterator",data:=.fields #[.ref l,.int 0 0]}).objs.size)))
    {s with heap:=(s.heap.push {cls:=.type "tuple_iterator",data:=.fields #[.ref l,.int 0 0]}).push {cls:=.type "enumerate",data:=.fields #[.none,.bool false,.ref s.heap.objs.size,rawInt 0,.none,.none]}}):=
 .of_wp λprog w A R s h=>by
  obtain⟨hp,g,d,tk,os⟩:=s;obtain⟨hl,h⟩:=h;have hsub:=sub_enumerate;have hL:Heap.IsTuple (Shared.heap ⟨hp,g,d,tk,os⟩) l items:=⟨_,hl,hc,n,hdt⟩
  wp_walk using wpAny_loadPart' hl
  refine wpAny_stack_any λst=>wpAny_pure ?_;split
  .rename_i c _ _ _ _ _;cases(c==Value.type "enumerate")
   .wp_walk using wpAny_loadPart' hl,wpAny_pyIter_tuple hL
    exact⟨_,rfl,h⟩
   .wp_walk using wpAny_loadPart' hl,wpAny_pyIter_tuple hL
    exact⟨_,rfl,h⟩
  .wp_walk using wpAny_loadPart' hl,wpAny_pyIter_tuple hL
   exact ag _ rfl h
theorem jc{l:Addr}{items:Array Value}{Q:Ec}{Ex:Ec}(hl:sh.heap.IsTuple l items)
  (h:∀h',IsEnum h' (sh.heap.objs.size+1) sh.heap.objs.size 0 .none->h'.IsTupleIter sh.heap.objs.size l 0->(∀b o,sh.heap.get? b=some o->h'.get? b=some o)->Q (.ref (sh.heap.objs.size+1)) {sh with heap:=h'}):
  wpAny S.M A (P6 (.type "enumerate") [.ref l]) Q Ex sh:=by
 obtain⟨o,h1,h2,m,h3⟩:=hl;refine callType_new PySem.F.called_enumerate (by decide) (PySem.F.typeCall_enumerate_1 _) (PySem.F.newCall_enumerate_1 _) (λbc=>PySem.F.args_object_init_2 bc _) PySem.F.entry_enumerate_new
  (iO l o items m h2 h3) ⟨h1,?_⟩
 have hz:(sh.heap.push {cls:=.type "tuple_iterator",data:=.fields #[.ref l,.int 0 0]}).objs.size=sh.heap.objs.size+1:=Heap.size_push ..;refine hz.symm▸?_;have he:IsEnum ((sh.heap.push {cls:=.type "tuple_iterator",data:=.fields #[.ref l,.int 0 0]}).push
   {cls:=.type "enumerate",data:=.fields #[.none,.bool false,.ref sh.heap.objs.size,rawInt 0,.none,.none]}) (sh.heap.objs.size+1) sh.heap.objs.size 0 .none:=by
  have:=PQ (sh.heap.push {cls:=.type "tuple_iterator",data:=.fields #[.ref l,.int 0 0]})
   (o:={cls:=.type "enumerate",data:=.fields #[.none,.bool false,.ref sh.heap.objs.size,rawInt 0,.none,.none]}) rfl
  rw[hz] at this;exact this
 exact⟨(ag _ he rfl),h _ he (bk _ (PO _ (PQ _ rfl)) rfl rfl) λb o x=>PO _ (PO _ x)⟩
noncomputable def BK (vs:List V) (s:St):R It:=match vs with
  |[v]=>match v with
   |.av vs=>.ok (.hI (.av vs) 0) s|.ar l=>match s.get l with
    |some (.list _)=>.ok (.hI (.list l 0) 0) s|_=>.no 51
   |_=>.no 51
  |_=>.no 51
theorem Jt(cs:List (Code V))(lo:Lo)(s:St):j5 2 cs ctx lo s=(gO cs ctx lo s).bind BK:=rfl
set_option tactic.hygienic true in
theorem GW{y:Str}{np pos:Pos}{cs:List (Code V)}{pes:List PE}(hk:sc.lookup y=some .globalImplicit)(hd:(y==("__debug__":Str))=false)(hv:S.cQ y=some (.type "enumerate"))(q:bM S hN n sc ctx cs pes):zR S hN n sc ctx (j5 2 cs) (.Call (.Name y np) pes [] pos):=λA g s sh lo env p=>by
 simp only[Jt];refine GV (VP:=VI S (FX env) sh.heap) rfl (lD hk hd hv q p λvs s1 g1 sh1 ys e1 p1 q1=>?_) λit g1 s1 sh1 y he e1 r1 q1=>?_
 .cases vs with
  |nil=>trivial|cons v vs=>
   induction vs with
   |cons _ _=>trivial|nil=>
    refine aa q1.fO λz z1 q2=>?_;refine z1▸?_;unfold BK;cases v<;>try trivial
    .rename_i vs;refine aw q2.cG λa xs z2 ht qs=>?_;refine z2▸?_;refine λQ Ex k=>jc ht λh' h1 h2 hk=>?_;refine aO (id h2) λo z1 z2 z3=>?_;obtain⟨f1,f2,f3⟩:=rq (it:=.hI (.av vs) 0) (F:=FX env) (h0:=sh.heap) (tk:=sh1.toks) (b:=0) p1.r (fB p1.e) (λz=>e1.dG) hk h1 z1 z3 (by rw[z2];exact ng (by decide))
      (.jF (k:=0) ((aG.bq (S:=S) (X:=[]) (g:=g1) hk).kc ht) h2 (by skip;exact qs.ext (aG.bq (X:=[]) hk)) h1 (Nat.succ_ne_self _) (QX _))
     exact k _ _ _ f1 f2 f3
    .rename_i l;dsimp only;split
     .rename_i vs hvs;refine eD (dH p1.r q2 hvs) λa xs m z3 hg ho qs=>?_;refine z3▸?_;refine λQ Ex k=>call_enumerate_1 ho λh' h1 h2 _ hk=>?_;refine aO (id h2) λo z1 z2 z3=>?_;obtain⟨f1,f2,f3⟩:=rq (it:=.hI (.list l 0) 0) (F:=FX env) (h0:=sh.heap) (tk:=sh1.toks) (b:=0) p1.r (fB p1.e) (λz=>e1.dG) hk h1 z1 z3 (by rw[z2];exact ng (by decide))
       (.jE (k:=0) hg h2 h1 (Nat.succ_ne_self _))
      exact k _ _ _ f1 f2 f3
     .trivial
 .obtain⟨a,fp,rfl,i1,i2,i3⟩:=q1;refine λQ Ex k=>?_;have key:∃b i old,IsEnum sh1.heap a b i old:=by
   have cE:∃it' kk,it=.hI it' kk:=by
    refine a8 (R.cj he) λvs s2 h1 h2=>?_;unfold BK at h2;clear h1 e1 he p q hv hd hk;cases vs with
    |nil=>exact kW h2|cons v vs=>
     induction vs with
     |cons _ _=>exact kW h2|nil=>
      cases v<;>try (exact kW h2;done)
      .injection h2 with h2;exact h2▸(gb _ _ rfl)
      .dsimp only at h2;split at h2
       .injection h2 with h2;exact h2▸(gb _ _ rfl)
       .exact kW h2
   clear e1 he p q hv hd hk;obtain⟨it',kk,rfl⟩:=cE;cases i1 with
   |jE _ _ h3 _=>exact nJ _ _ _ h3|jF _ _ _ h4 _ _=>exact nJ _ _ _ h4
  refine AK key λb i old hen=>?_;exact wpAny_pyIter_enum hen (k g1 sh1 _ .refl r1 (cZ a fp rfl i1 i2 i3))
noncomputable def GX:Gh->Heap->It->Value->Prop:=λg h it y=>∃v l d k ds,y=.ref v/\it=.items l 0 k/\g.ar[l]?=some d/\(d==sysModules)=false/\h.get? v=some {cls:=.type "dict_items",data:=.fields #[.ref d]}/\h.get? d=some {cls:=.type "dict",data:=.dict ds ds.size}/\k=ds.size
theorem xj{d:Addr}{ds:Array DictEntry}{nn:Nat}{Q:Ec}{Ex:Ec}(hs:(d==sysModules)=false)(ho:sh.heap.get? d=some {cls:=.type "dict",data:=.dict ds nn})
  (h:Q (.ref sh.heap.objs.size) {sh with heap:=sh.heap.push {cls:=.type "dict_items",data:=.fields #[.ref d]}}):wpAny S.M A (P6 (.builtin "dict.items") [.ref d]) Q Ex sh:=by
 have hT:sh.TypeIs (.ref d) "dict":=ag _ ho rfl;refine wpAny_call_entry PySem.F.slot_dict_items hT PySem.F.entry_dict_items ?_ (PySem.F.args_dict_items_1 _);refine wpAny_bind ?_;refine wpAny_bind (wpAny_notOrdered_dict hT ?_);refine wpAny_pure ?_;unfold Builtin.Dict.showsAll;refine(if_neg (hs▸R1)).symm▸?_;refine wpAny_bind (wpAny_pure ?_);exact wpAny_bind (wpAny_newObj_type (wpAny_pure (ag _ rfl h)))
theorem lE{v d:Addr}{ds:Array DictEntry}{Q:Ec}{Ex:Ec}(hv:sh.heap.get? v=some {cls:=.type "dict_items",data:=.fields #[.ref d]})(ho:sh.heap.get? d=some {cls:=.type "dict",data:=.dict ds ds.size})
  (hQ:Q (.ref sh.heap.objs.size) {sh with heap:=sh.heap.push {cls:=.type "dict_itemiterator",data:=.fields #[.none,.bool false,.ref d,.int 0 0,.int ds.size 0,.int ds.size 0,.none,.none]}}):wpAny S.M A (pyIter (.ref v)) Q Ex sh:=by
 have hT:sh.TypeIs (.ref v) "dict_items":=ag _ hv rfl;refine wpAny_pyIter_slot hT PySem.F.slot_dict_items_iter (wpAny_call_entry PySem.F.slot_dict_items_iter hT PySem.F.entry_dict_items_iter ?_ (PySem.F.args_dict_items_iter_1 _));refine wpAny_bind (wpAny_pure ?_);refine wpAny_bind ?_;refine wpAny_bind (wpAny_field hv rfl (x:=.ref d) rfl (wpAny_pure ?_));refine wpAny_bind ?_;refine wpAny_bind (wpAny_dictEntries ho rfl ?_);refine wpAny_bind (wpAny_dictEpoch ho rfl ?_);have hown:Builtin.Dict_items.ownsTuple "dict_itemiterator"=true:=by decide
 simp only[hown,if_true];refine wpAny_newObj_type (wpAny_pure ⟨_,rfl,"dict_itemiterator",_,(ag _ (PQ _ rfl) rfl),PySem.F.slot_dict_itemiterator_next.lookup,?_⟩)
  (by skip;exact Q1 _ _)
 simpa [rawInt,Builtin.Dict_items.ownedTupleFields] using hQ
set_option tactic.hygienic true in
theorem Ef{c:Code V}{o:PE}{apos pos:Pos}(hb:jP o=true)(hl:(apos.endLine==pos.line)=true)(w:aF S hN n sc ctx c o):zR S hN n sc ctx (j5 3 [c]) (.Call (.Attribute o "items" apos) [] [] pos):=λA g s sh lo env p=>by
 have e0:j5 3 [c] ctx lo s=(c ctx lo s).bind λv s=>match v with
   |.ar l=>match s.get l with
    |some (.dict es)=>.ok (.items l 0 (len es)) s|_=>.no 53
   |_=>.no 53:=by
  refine(?_:(gO [c] ctx lo s).bind _=_);rw[m9,R.bind_assoc];rfl
 refine e0.symm▸?_;refine GV (VP:=GX) rfl ?_ λit g1 s1 sh1 y he e1 r1 q1=>?_
 .rw[arm_eval_Call];rw[jQ hb];refine w.bind p λv s1 g1 sh1 y e1 p1 q1=>?_;cases v<;>try trivial
  rename_i l;dsimp only;split
  .rename_i es hes;have q1':=q1;obtain⟨d,h1,rfl⟩:=q1';refine dQ (lu p1.r h1 hes) λds ho _ _ hlen=>?_;refine λQ Ex k=>lB (cs:=[]) (hN:=hN) (n:=n) (sc:=sc) (ctx:=ctx) (S:=S) hl (by decide) .nil (getMethod_builtin (ag _ ho rfl) PySem.F.plainAttrs_dict PySem.F.slot_dict_items PySem.F.type_dict_items (λa' e=>by exact(Qq e)▸(ag _ ho rfl)) ?_);refine Rd rfl (bJ (S:=S) (hN:=hN) (n:=n) (sc:=sc) (ctx:=ctx) .nil (wpAny_pure ?_));refine xj (ig p1.r h1) ho (k g1 {sh1 with heap:=sh1.heap.push {cls:=.type "dict_items",data:=.fields #[.ref d]}} _ (aG.push _) (p1.r.push (tk:=sh1.toks) _) ?_);exact⟨_,l,d,_,ds,rfl,rfl,h1,ig p1.r h1,PQ _ rfl,PO _ ho,by rw[aJ,hlen]⟩
  .trivial
 .refine uf q1 λv l d k ds z5 z6 h1 h2 h3 h4 z11=>?_;refine z5▸?_;refine z6▸?_;exact z11▸xh r1 (fB (p.step e1 r1).e) (λz=>e1.dG) (λ_ _ e=>e) rfl (ng (by decide)) (.items h1 (PQ _ rfl)) λQ Ex k=>lE h3 h4 (k sh1.toks)
inductive oZ (S:SI) (hN:Bool) (n:Nat) (sc:Sc) (ctx:Ctx):List (Code V)->List PE->Prop
 |nil:oZ S hN n sc ctx [] []|cons {c:Code V} {pe:PE} {cs:List (Code V)} {pes:List PE}:GS S hN n sc ctx c pe->oZ S hN n sc ctx cs pes->oZ S hN n sc ctx (c::cs) (pe::pes)
theorem xl(c:Code V)(cs:List (Code V))(lo:Lo)(s:St):e.qJ (c::cs) ctx lo s=(c ctx lo s).bind λv s=>match zu v s with
 |some x=>(e.qJ cs ctx lo s).bind λr s=>match aN (len x+len r) with|true=>.ok (dZ x r) s|false=>.no 118
 |.none=>.no 118:=rfl
theorem xm{cs:List (Code V)}{pes:List PE}(q:oZ S hN n sc ctx cs pes){lo:Lo}{env:PM}{Q:Str->Shared->Prop}{Ex:Ec}:∀ {g s sh} {acc r:List Nat} {s':St},bX S hN n sc A g s sh lo env->e.qJ cs ctx lo s=.ok r s'->acc.length+r.length<100000->
  (∀g' sh',aG S [] g sh.heap g' sh'.heap->aD S g' s' sh'->Q (ak (acc++r)) sh')->Joins S.M A Ex (evalEach pes env) (ak acc) Q sh:=by
 induction q with
 |nil=>intro g s sh acc r s' p he hz hq;injection he with u v;subst u;subst v;have:=hq g sh .refl p.r;rw[QI] at this;exact this
 |@cons c pe cs pes w _ ih=>
  intro g s sh acc r s' p he hz hq;refine a8 (R.cj he) λv s1 h1 h2=>?_;refine cJ (zu v s1) (λhx=>?_) λx hx=>?_
  .rw[hx] at h2;exact kW h2
  .rw[hx] at h2;refine a8 (R.cj h2) λr' s2 h3 h4=>?_;refine cy (aN (len x+len r')) (λhr=>?_) λhr=>?_
   .simp only[hr] at h4;exact kW h4
   .rw[hr] at h4;clear h2 he;injection h4 with u v;subst u;induction v;simp only[bx,PH] at hz;refine w A g s sh lo env p v s1 x h1 hx (by omega) _ _ λg1 sh1 t e1 r1=>?_;refine bQ _ _ rfl ?_ ?_
    .rw[<-kZ,aR,PH,sizeLine_eq];exact fk hz
    .rw[<-kZ];refine ih (p.step e1 r1) h3 (by rw[PH];omega) λg2 sh2 e2 r2=>?_;have:=hq g2 sh2 (e1.trans e2) r2;rw[bx,<-Qx] at this;exact this
theorem GY{c1 c2:Code V}{p1 p2:PE}{cs:List (Code V)}{pes:List PE}{pos:Pos}(q:oZ S hN n sc ctx (c1::c2::cs) (p1::p2::pes)):aF S hN n sc ctx (e.rY (c1::c2::cs)) (.JoinedStr (p1::p2::pes) pos):=λA g s sh lo env p=>by
 refine(?_:W S [] A (VR S) _ g sh ((Mp.bb (e.qJ (c1::c2::cs) ctx lo s)).bind λr s=>.ok (.str r) s));cases he:e.qJ (c1::c2::cs) ctx lo s with
 |no _=>trivial|ez _ _=>trivial|ok r s'=>
  refine λQ Ex k=>wpAny_JoinedStr ?_;have hz:r.length<100000:=by
   rw[xl] at he;refine a8 (R.cj he) λv s1 h1 h2=>?_;refine cJ (zu v s1) (λhx=>?_) λx hx=>?_
   .replace h2:=hx▸h2;exact kW h2
   .replace h2:=hx▸h2;refine a8 (R.cj h2) λr' s2 h3 h4=>?_;refine cy (aN (len x+len r')) (λhr=>?_) λhr=>?_
    .replace h4:=hr▸h4;exact kW h4
    .rw[hr] at h4;injection h4 with h4;refine h4▸?_;have:=gw hr;simp only[aJ,aJ] at this;simp only[bx,PH];exact this
  refine xm (acc:=[]) q p he (by simpa using hz) λg' sh' e1 r1=>⟨?_,?_⟩
  .skip;exact Qg (PZ hz (by decide))
  .skip;exact k g' {sh' with toks:=sh'.toks+1} _ e1 r1.Gl VR.eE
noncomputable def qm (em:β->Lo->St->R β) (xs:List Nat) (is:Code Bool) (c:Ctx):Nat->It->β->Lo->St->R β
 |0,_,_,_,_=>.no 0|k+1,it,acc,lo,s=>match next it s with
  |some (some (v,it'))=>match bf xs v lo with
   |some lo'=>(is c lo' s).bind λb s=>@PS (λzz=>R β) (qm em xs is c k it' acc lo' s) ((em acc lo' s).bind λacc s=>qm em xs is c k it' acc lo' s) b|.none=>.no 131
  |some .none=>.ok acc s|.none=>.no 132
noncomputable def Na (x:Code V) (c:Ctx) (acc:List V) (lo:Lo) (s:St):R (List V):=(x c lo s).bind λw s=>match aN (len acc) with|true=>.ok (dZ acc [w]) s|false=>.no 131
noncomputable def Nb (k x:Code V) (c:Ctx) (acc:List (V×V)) (lo:Lo) (s:St):R (List (V×V)):=(k c lo s).bind λa s=>(x c lo s).bind λw s=>match aA a with
    |true=>(match aN (len acc) with|true=>.ok (bD acc a w) s|false=>.no 131)|false=>.no 131
theorem lF(em:β->Lo->St->R β)(xs:List Nat)(is:Code Bool)(c:Ctx)(k:Nat)(it:It)(acc:β)(lo:Lo)(s:St):qm em xs is c (k+1) it acc lo s=match next it s with
  |some (some (v,it'))=>match bf xs v lo with
   |some lo'=>(is c lo' s).bind λb s=>@PS (λzz=>R β) (qm em xs is c k it' acc lo' s) ((em acc lo' s).bind λacc s=>qm em xs is c k it' acc lo' s) b|.none=>.no 131
  |some .none=>.ok acc s|.none=>.no 132:=rfl
theorem Eg(x:Code V)(xs:List Nat)(is:Code Bool)(c:Ctx):∀(k:Nat) (it:It) (acc:List V) (lo:Lo) (s:St),Mp.e.fb x xs is c k it acc lo s=qm (Na x c) xs is c k it acc lo s:=by
 intro k;induction k with
 |zero=>intro it acc lo s;rfl|succ k ih=>
  intro it acc lo s;rw[lF];refine(?_:(match next it s with
   |some (some (v,it'))=>match bf xs v lo with
    |some lo'=>(is c lo' s).bind λb s=>@PS (λzz=>R (List V)) (Mp.e.fb x xs is c k it' acc lo' s) ((x c lo' s).bind λw s=>match aN (len acc) with|true=>Mp.e.fb x xs is c k it' (dZ acc [w]) lo' s|false=>.no 131) b|.none=>.no 131
   |some .none=>.ok acc s|.none=>.no 132)=_)
  cases next it s with
  |none=>rfl|some o=>
   induction o with
   |none=>rfl|some vi=>
    obtain⟨v,it'⟩:=vi;dsimp only;cases bf xs v lo with
    |none=>rfl|some lo'=>
     dsimp only;congr 1;funext b s;induction b with
     |false=>exact ih it' acc lo' s|true=>
      refine(?_:(x c lo' s).bind _=((x c lo' s).bind _).bind _);rw[R.bind_assoc];congr 1;funext w s;cases aN (len acc) with
      |false=>rfl|true=>exact ih it' (dZ acc [w]) lo' s
theorem BL(y x:Code V)(xs:List Nat)(is:Code Bool)(c:Ctx):∀(k:Nat) (it:It) (acc:List (V×V)) (lo:Lo) (s:St),Mp.e.gP y x xs is c k it acc lo s=qm (Nb y x c) xs is c k it acc lo s:=by
 intro k;induction k with
 |zero=>intro it acc lo s;rfl|succ k ih=>
  intro it acc lo s;rw[lF];refine(?_:(match next it s with
   |some (some (v,it'))=>match bf xs v lo with
    |some lo'=>(is c lo' s).bind λb s=>@PS (λzz=>R (List (V×V))) (Mp.e.gP y x xs is c k it' acc lo' s) ((y c lo' s).bind λa s=>(x c lo' s).bind λw s=>match aA a with
    |true=>(match aN (len acc) with|true=>Mp.e.gP y x xs is c k it' (bD acc a w) lo' s|false=>.no 131)|false=>.no 131) b
    |.none=>.no 131
   |some .none=>.ok acc s|.none=>.no 132)=_)
  cases next it s with
  |none=>rfl|some o=>
   induction o with
   |none=>rfl|some vi=>
    obtain⟨v,it'⟩:=vi;dsimp only;cases bf xs v lo with
    |none=>rfl|some lo'=>
     dsimp only;congr 1;funext b s;induction b with
     |false=>exact ih it' acc lo' s|true=>
      refine(?_:(y c lo' s).bind _=((y c lo' s).bind _).bind _);rw[R.bind_assoc];congr 1;funext a s;rw[R.bind_assoc];congr 1;funext w s;cases aA a with
      |false=>rfl|true=>
       cases aN (len acc) with
       |false=>rfl|true=>exact ih it' (bD acc a w) lo' s
inductive gz (S:SI) (hN:Bool) (n:Nat) (sc:Sc) (ctx:Ctx):List (Code V)->List PE->Prop
 |nil:gz S hN n sc ctx [] []|cons {c:Code V} {pe:PE} {cs:List (Code V)} {pes:List PE}:fc S hN n sc ctx c pe->gz S hN n sc ctx cs pes->gz S hN n sc ctx (c::cs) (pe::pes)
noncomputable abbrev dJ (pes:List PE) (b:Bool) (env:PM):Sem Bool:=forIn pes b λc r=>if r=true then do let ok<-PySem.isTrue c env (eval c env);P2 (RD ok) else P2 (RD r)
theorem mr(env:PM):∀(pes:List PE),dJ pes false env=P2 false
 |[]=>by unfold dJ;dsimp only[List.forIn_nil]
 |p::pes=>by have:=mr env pes;unfold dJ at this⊢;rw[List.forIn_cons,if_neg (by decide),pure_bind];exact this
theorem Ab{cs:List (Code V)}{pes:List PE}(q:gz S hN n sc ctx cs pes){lo:Lo}{env:PM}:∀ {g s sh},bX S hN n sc A g s sh lo env->W S [] A VB (dJ pes true env) g sh (e.ifs cs ctx lo s):=by
 induction q with
 |nil=>intro g s sh p;exact W.pure p.r rfl|@cons c pe cs pes w _ ih=>
  intro g s sh p;have e0:dJ (pe::pes) true env=(PySem.isTrue pe env (eval pe env)>>=λok=>dJ pes ok env):=by unfold dJ;rw[List.forIn_cons,if_pos rfl,bind_assoc];simp only[pure_bind]
  rw[e0];refine(?_:W S [] A VB _ g sh ((ea c ctx lo s).bind λb s=>@PS (λzz=>R Bool) (.ok false s) (e.ifs cs ctx lo s) b));refine w.bind p λb s1 g1 sh1 e1 p1=>?_;induction b with
  |true=>exact ih p1|false=>rw[mr];exact W.pure p1.r rfl
structure xn (S:SI) (g:Gh) (F fp:List Addr) (D:Addr):Prop where
 ar:D∉g.ar
 bH:D∉g.bH
 new:S.h0.get? D=none
 fx:D∉F
 fp:D∉fp
theorem xn.ext{F fp:List Addr}{D:Addr}(d:xn S g F fp D)(e:aG S X g h g' h'){o:Obj}(ho:h.get? D=some o):xn S g' F fp D:=by
 refine⟨λm=>?_,λm=>?_,d.new,d.fx,d.fp⟩
 .refine QK (e.c7 D m) (λz=>?_) λz=>?_
  .exact d.ar z
  .rw[ho] at z;cases z
 .refine QK (e.dO D m) (λz=>?_) λz=>?_
  .exact d.bH z
  .rw[ho] at z;cases z
theorem rt{F fp:List Addr}{D:Addr}{tk:Nat}{o o':Obj}(r:aD S g s sh)(d:xn S g F fp D)(ho:sh.heap.get? D=some o)(hi:¬sa o)(hs:P0 D sh.heap h')(ho':h'.get? D=some o'):
  aG S [D] g sh.heap g h'/\aD S g s {sh with heap:=h',toks:=tk}/\Up g sh.heap g h':=by
 have hk:∀a x,sh.heap.get? a=some x->a∉[D]->h'.get? a=some x:=λa x q m=>(hs.2 a λe=>m (by refine e.symm▸?_;exact Q9 _)).trans q;have hi':∀z∈[D],∀x,sh.heap.get? z=some x->¬sa x:=λz hz x q=>by rw[PI.mp hz,ho] at q;exact(PD q)▸hi
 have hf:∀z∈[D],z∉g.bH:=λz hz=>by refine(PI.mp hz).symm▸?_;exact d.bH
 have ex:aG S [D] g sh.heap g h':=aG.jw (λz hz x zz=>by refine(PI.mp hz).symm▸?_;exact⟨_,ho'⟩) hk hf hi' λz hz=>.inl hz;exact j2 ex (r.jw hk hf (λz hz=>by refine(PI.mp hz).symm▸?_;exact d.ar) hi' λz hz=>by exact(PI.mp hz)▸d.new) ex.up
theorem bX.rt{fp:List Addr}{D:Addr}{tk:Nat}{o o':Obj}{lo:Lo}{env:PM}(hof:o.cls≠ .type "frame")(p:bX S hN n sc A g s sh lo env)(d:xn S g (FX env) fp D)(ho:sh.heap.get? D=some o)(hi:¬sa o)(hs:P0 D sh.heap h')(ho':h'.get? D=some o')(hnf:∀vs,o'.data≠ .fields vs):
  bX S hN n sc A g s {sh with heap:=h',toks:=tk} lo env:=by
 refine nI (Mp.rt (tk:=tk) p.r d ho hi hs ho') λzz r' e=>?_;have keep:∀c x,c∈FX env->sh.heap.get? c=some x->h'.get? c=some x:=λc x hc q=>(hs.2 c λe=>d.fx (e▸hc)).trans q;have cellK:∀ {c v},c∈env.cells.map (·.2)->sh.heap.IsCell c v->h'.IsCell c v:=λ {c v} hc ⟨o,h1,h2⟩=>ag o (keep c o (PL _ hc) h1) h2;refine aa p.l λm hm hv=>?_;have hm':h'.Ns env.locals m:=by refine fY hm λo es ep q1 q2=>?_;exact lU o es ep (keep _ o PJ q1) q2
 refine⟨⟨p.a.depth,p.a.units,p.a.hd,p.a.gd,?_⟩,p.gu,p.vW,p.DM,p.sc,⟨p.e.kind,p.e.globals,p.e.builtins,gy hm',p.e.qN,p.e.jM,p.e.inj,(by
  refine aa p.e.sq λo1 k1 k2=>?_;exact ag o1 (keep _ o1 PJ k1) k2),λc hc=>?_⟩,r',m,hm',λx v q=>?_⟩
 .refine aO p.a.fr λl h1 h2 h3=>?_;refine bk l h1 ?_ (λen m L hL=>?_);rotate_left
  .obtain⟨k1,o1,es,k,k2,k3,k4⟩:=h3 en m L hL;have hLD:L≠D:=λe=>by simp only[e,ho] at k2;obtain rfl:=PD k2;exact hof k3
   exact⟨k1,o1,es,k,(hs.2 L hLD).trans k2,k3,k4⟩
  exact FunFrames.map (λL o1 k3 k4 k5=>QN (λhL:L=D=>⟨o',hL▸ho',hnf⟩) λhL=>⟨o1,(hs.2 L hL).trans k4,k5⟩) h2
 .obtain⟨h1,h2,v,h3⟩:=p.e.cells c hc;exact⟨h1,h2,v,cellK hc h3⟩
 .refine dw (hv x v q) λh1 h2=>?_;refine⟨h1,?_⟩;split at h2
  .refine aa h2 λu k1 k2=>?_;exact ag u k1 (k2.up e)
  .obtain⟨c,u,k1,k2,k3⟩:=h2;exact⟨c,u,k1,cellK (aQ k1) k2,k3.up e⟩
  .obtain⟨c,u,k1,k2,k3⟩:=h2;exact⟨c,u,k1,cellK (aQ k1) k2,k3.up e⟩
  .trivial
theorem um.az{env:PM}{lo lo':Lo}(l:um S env lo g h)(hs:∀z w,ao lo' z=some w->ao lo z=some w):um S env lo' g h:=by refine aa l λm h1 h2=>?_;exact ag m h1 (λx v q=>h2 x v (hs x v q))
theorem bX.az{lo lo':Lo}{env:PM}(p:bX S hN n sc A g s sh lo env)(hs:∀z w,ao lo' z=some w->ao lo z=some w):bX S hN n sc A g s sh lo' env:=⟨p.a,p.gu,p.vW,p.DM,p.sc,p.e,p.r,p.l.az hs⟩
inductive g8 (S:SI) (sc:Sc):List Nat->PE->Prop
 |fU {x:Nat} {y:Str} {pos:Pos}:y=S.n x->x<S.nm.length->sc.lookup y=some .local->g8 S sc [x] (.Name y pos)|wY {x1 x2:Nat} {y1 y2:Str} {p1 p2 pos:Pos} {k:Nat}:y1=S.n x1->x1<S.nm.length->sc.lookup y1=some .local->y2=S.n x2->x2<S.nm.length->sc.lookup y2=some .local->g8 S sc [x1,x2] (.Tuple [.Name y1 p1,.Name y2 p2] k pos)
theorem jW{env:PM}{lo:Lo}{x:Nat}{v:V}{y:Value}(p:bX S hN n sc A g s sh lo env)(hx:x<S.nm.length)(hk:sc.lookup (S.n x)=some .local)(q:VR S g sh.heap v y):
  W S [env.locals] A (VA S env) (bindName env (S.n x) y) g sh (.ok (a9 lo x v) s):=by
 have h1:=((p.sc (S.n x)).2.2 (congrArg _ hk)).1;replace h1:=h1.trans hk;refine λQ Ex k=>wpAny_bindName ?_;refine aa p.l λm hm hv=>?_;refine eF h1 hm (λh' hn hs hcl=>?_) (by refine p.e.kind.symm▸?_;rfl);refine nI (yy (tk:=sh.toks+1) p hx h1 q hm hv hn hs hcl) λa1 a2 a3=>?_;refine fY (id hn) λo es ep hn1 zz=>?_;have ex:aG S [env.locals] g sh.heap g h':=by
  refine aG.jw (Z:=[env.locals]) (λz hz zz zz=>by rw[PI.mp hz];exact⟨o,hn1⟩) (λa o ho ha=>(hs.2 a λe=>ha (by simp only[e];exact Q9 _)).trans ho) (λz hz hz2=>?_) (λz hz o ho=>?_) (λz hz=>.inl hz)
  .simp only[PI.mp hz] at hz2;exact kY (p.r.bH _ hz2) hm
  .replace ho:=(PI.mp hz)▸ho;refine aO p.e.here λo' h1 h2 zz=>?_;rw[ho] at h1;exact(PD h1)▸h2
 exact k g _ () ex a2 a3
theorem BM{env:PM}(e:aG S [env.locals] g h g' h'):aG S (FX env) g h g' h':=e.eg λx m=>.inl (by simp only[PI.mp m];exact PJ)
set_option tactic.hygienic true in
theorem xp{xs:List Nat}{te:PE}{env:PM}{lo lo':Lo}{v:V}{y:Value}(t:g8 S sc xs te)(p:bX S true n sc A g s sh lo env)(q:VR S g sh.heap v y)(hb:bf xs v lo=some lo'):
  W S [env.locals] A (VA S env) (assign te env y) g sh (.ok lo' s):=by
 induction t with
 |@fU x y' pos hy hx hk=>injection hb with hb;subst hb;subst hy;exact W.aT (jW p hx hk q)
 |@wY x1 x2 y1 y2 p1 p2 pos k hy1 hx1 hk1 hy2 hx2 hk2=>
  subst hy1;subst hy2;cases v<;>try (exact ns hb;done)
  rename_i vs;cases vs with
  |nil=>exact ns hb|cons a vs=>cases vs with
   |nil=>exact ns hb|cons b vs=>induction vs with
    |cons _ _=>exact ns hb|nil=>obtain rfl:=PD hb;refine aw q.cG λta xs z2 ht qs=>?_;refine z2▸?_;refine aw qs.wY λy1 y2 hxs q1 q2=>?_;refine W.aT (λQ Ex kq=>unpack_tuple (p.a.hd rfl) (i0 ht) (by simp only[<-QG,hxs];rfl) (by rfl) λh' he=>?_);have e0:aG S [] g sh.heap g h':=aG.bq (ExtBut.keeps he);have p0:=p.step e0 (p.r.bq (tk:=sh.toks) (ExtBut.keeps he));simp only[hxs];refine(?_:wpAny S.M A (holding [y2] (standAt p1>>=λ_=>bindName env (S.n x1) y1)>>=λ_=>holding [] (standAt p2>>=λ_=>bindName env (S.n x2) y2)>>=λ_=>P2 ()) Q Ex _);refine wpAny_bind (wpAny_holding (wpAny_bind (wpAny_standAt ((jW p0 hx1 hk1 (q1.ext e0)) _ Ex λg1 sh1 _ e1 r1 af1=>?_))));have pp1:=p0.l5 (BM e1) r1 af1;refine wpAny_bind (wpAny_holding (wpAny_bind (wpAny_standAt ((jW pp1 hx2 hk2 ((q2.ext e0).ext e1)) _ Ex λg2 sh2 _ e2 r2 af2=>wpAny_pure ?_))));exact kq g2 sh2 () ((e0.nil.trans e1).trans e2) r2 af2
noncomputable def ru (xs:List Nat) (lo:Lo):Lo:=lo.filter λp=> !xs.contains p.1
theorem fP(xs:List Nat)(z:Nat):∀(lo:Lo),ao (ru xs lo) z=if z∈xs then none else ao lo z
 |[]=>by split<;>rfl
 |p::lo=>by
  have ih:=fP xs z lo;unfold ru at ih⊢;rw[List.filter_cons];by_cases hp:p.1∈xs
  .have:(!xs.contains p.1)=false:=by simp[hp]
   rw[this,if_neg (by decide),ih,cP];by_cases hz:z∈xs
   .rw[if_pos hz,if_pos hz]
   .rw[if_neg hz,if_neg hz,if_neg (λe:p.1=z=>hz (e▸hp))]
  .have:(!xs.contains p.1)=true:=by simp[hp]
   rw[this,if_pos rfl,cP,cP,ih];by_cases hz:z∈xs
   .rw[if_pos hz,if_pos hz,if_neg (λe:p.1=z=>hp (e▸hz))]
   .rw[if_neg hz,if_neg hz]
set_option tactic.hygienic true in
theorem xq{xs:List Nat}{v:V}{lo lo':Lo}(hb:bf xs v lo=some lo'):∃lo1,bf xs v (ru xs lo)=some lo1/\∀z w,ao lo' z=some w->ao lo1 z=some w:=by
 cases xs with
 |nil=>exact ns hb|cons x xs=>cases xs with
  |nil=>
   injection hb with hb;subst hb;refine ag _ rfl (λz w hw=>?_);rw[eX] at hw⊢;by_cases e:z=x
   .rw[if_pos e] at hw⊢;exact hw
   .rw[if_neg e] at hw⊢;rw[fP,if_neg (by simp[e])];exact hw
  |cons y xs=>induction xs with
   |cons _ _=>exact ns hb|nil=>
    cases v<;>try (exact ns hb;done)
    rename_i vs;cases vs with
    |nil=>exact ns hb|cons a vs=>cases vs with
     |nil=>exact ns hb|cons b vs=>induction vs with
      |cons _ _=>exact ns hb|nil=>
       refine(PD hb)▸?_;refine ag _ rfl (λz w hw=>?_);rw[eX,eX] at hw⊢;by_cases e:z=y
       .rw[if_pos e] at hw⊢;exact hw
       .rw[if_neg e] at hw⊢;by_cases e2:z=x
        .rw[if_pos e2] at hw⊢;exact hw
        .rw[if_neg e2] at hw⊢;rw[fP,if_neg (by simp[e,e2])];exact hw
noncomputable def BN (S:SI) (A:Around) (ce te:PE) (ifsE:List PE) (emit:Value->PM->Sem Unit):Prop:=∀(it acc:Value) (env:PM) (R:Result->Shared->Prop) (sh:Shared),
 wpAny S.M A (pyNext it) (λr s₁=>match r with
  |none=>R (.ok .next) s₁|some v=>wpAny S.M A (letOwnedTupleGo te it v) (λzz s₁'=>wpAny S.M A (assign te env v) (λzz s₂=>wpAny S.M A (dJ ifsE true env) (λok s₃=>if ok=true then wpAny S.M A (emit acc env) (λzz s₄=>codeAny S.M A (.compLoop ce 0 it acc env) R s₄) (notedBy S.M A env λe s'=>R (.error e) s') s₃ else codeAny S.M A (.compLoop ce 0 it acc env) R s₃) (notedBy S.M A env λe s'=>R (.error e) s') s₂) (notedBy S.M A env λe s'=>R (.error e) s') s₁') (notedBy S.M A env λe s'=>R (.error e) s') s₁) (notedBy S.M A env λe s'=>R (.error e) s') sh->
 codeAny S.M A (.compLoop ce 0 it acc env) R sh
theorem Ac{elt te ie:PE}{ifsE:List PE}{scope:Scope}{pos:Pos}:BN S A (.ListComp elt [⟨te,ie,ifsE,0⟩] scope pos) te ifsE (λacc env=>eval elt env>>=λx=>P6 (.builtin "list.append") [acc,x]>>=λzz=>P2 ()):=λit acc env R sh h=>by
 refine codeAny_of_tree ?_;refine(?_:wpAny _ A ((compTurn (.ListComp elt [⟨te,ie,ifsE,0⟩] scope pos) 0 it acc env).onRaise (λx=>do noteFrame x env;theTreesLotGoes x)) _ _ sh);refine wpAny_noted ?_;rw[compTurn_list];refine wpAny_bind (wpAny_standAt (wpAny_bind (wpAny_mono h (λr s₁ h₁=>?_) λzz zz h'=>h')));induction r with
 |none=>exact wpAny_pure h₁|some v=>
  refine wpAny_bind (wpAny_mono h₁ (λzz s₁' h₁'=>?_) λzz zz h'=>h');refine wpAny_bind (wpAny_mono h₁' (λzz s₂ h₂=>wpAny_bind (wpAny_mono h₂ (λok s₃ h₃=>?_) λzz zz h'=>h')) λzz zz h'=>h');induction ok with
  |false=>exact wpAny_pure ⟨rfl,h₃⟩|true=>exact wpAny_bind (wpAny_mono h₃ (λzz s₄ h₄=>wpAny_pure ⟨rfl,h₄⟩) λzz zz h'=>h')
theorem Ad{kx vx te ie:PE}{ifsE:List PE}{scope:Scope}{pos:Pos}{D:Addr}(it:Value)(env:PM)(R:Result->Shared->Prop)(sh:Shared)
 (h:wpAny S.M A (pyNext it) (λr s₁=>match r with
  |none=>R (.ok .next) s₁|some v=>wpAny S.M A (letOwnedTupleGo te it v) (λzz s₁'=>wpAny S.M A (assign te env v) (λzz s₂=>wpAny S.M A (dJ ifsE true env) (λok s₃=>if ok=true then wpAny S.M A (eval kx env>>=λkv=>holding [kv] (eval vx env)>>=λvv=>standAt {kx.pos with endLine:=vx.pos.endLine,endCol:=vx.pos.endCol}>>=λzz=>holding [kv,vv] (dictSet D kv vv)) (λzz s₄=>codeAny S.M A (.compLoop (.DictComp kx vx [⟨te,ie,ifsE,0⟩] scope pos) 0 it (.ref D) env) R s₄) (notedBy S.M A env λe s'=>R (.error e) s') s₃ else codeAny S.M A (.compLoop (.DictComp kx vx [⟨te,ie,ifsE,0⟩] scope pos) 0 it (.ref D) env) R s₃) (notedBy S.M A env λe s'=>R (.error e) s') s₂) (notedBy S.M A env λe s'=>R (.error e) s') s₁') (notedBy S.M A env λe s'=>R (.error e) s') s₁) (notedBy S.M A env λe s'=>R (.error e) s') sh):
 codeAny S.M A (.compLoop (.DictComp kx vx [⟨te,ie,ifsE,0⟩] scope pos) 0 it (.ref D) env) R sh:=by
 refine codeAny_of_tree ?_;refine(?_:wpAny _ A ((compTurn (.DictComp kx vx [⟨te,ie,ifsE,0⟩] scope pos) 0 it (.ref D) env).onRaise (λx=>do noteFrame x env;theTreesLotGoes x)) _ _ sh);refine wpAny_noted ?_;rw[compTurn_dict];refine wpAny_bind (wpAny_standAt (wpAny_bind (wpAny_mono h (λr s₁ h₁=>?_) λzz zz h'=>h')));induction r with
 |none=>exact wpAny_pure h₁|some v=>
  refine wpAny_bind (wpAny_mono h₁ (λzz s₁' h₁'=>?_) λzz zz h'=>h');refine wpAny_bind (wpAny_mono h₁' (λzz s₂ h₂=>wpAny_bind (wpAny_mono h₂ (λok s₃ h₃=>?_) λzz zz h'=>h')) λzz zz h'=>h');induction ok with
  |false=>exact wpAny_pure ⟨rfl,h₃⟩|true=>exact wpAny_bind (wpAny_mono h₃ (λzz s₄ h₄=>wpAny_pure ⟨rfl,h₄⟩) λzz zz h'=>h')
noncomputable def nj (S:SI) (n:Nat) (sc:Sc) (mk:β->O) (em:β->Lo->St->R β) (D:Addr) (emit:PM->Sem Unit):Prop:=
 ∀A g s sh lo env fp acc acc' s',bX S true n sc A g s sh lo env->xn S g (FX env) fp D->OR S g sh.heap D (mk acc)->em acc lo s=.ok acc' s'->
  ∀(Q:Unit->Shared->Prop) (Ex:Ec),(∀g' sh',aG S [D] g sh.heap g' sh'.heap->bX S true n sc A g' s' sh' lo env->OR S g' sh'.heap D (mk acc')->Q () sh')->wpAny S.M A (emit env) Q Ex sh
theorem Ae{x:Code V}{elt:PE}{D:Addr}(w:aF S true n sc ctx x elt):nj S n sc .list (Na x ctx) D (λenv=>eval elt env>>=λx=>P6 (.builtin "list.append") [.ref D,x]>>=λzz=>P2 ()):=by
 intro A g s sh lo env fp acc acc' s' p d ho he Q Ex kq;refine a8 (R.cj he) λv s1 h1 h2=>?_;refine cy (aN (len acc)) (λhz=>?_) λhz=>?_
 .simp only[hz] at h2;exact kW h2
 .rw[hz] at h2;clear he;injection h2 with u v;subst v;subst u;refine a8 ho λys m o1 o2=>?_;refine wpAny_bind ((w A g s sh lo env p).use h1 _ Ex λg1 sh1 y e1 r1 q1=>?_);have p1:=p.step e1 r1;have o1':=e1.keep D _ o1 d.ar (λm=>nomatch m) (fy p.r d.new) (ng (by decide));have d1:=d.ext e1 o1;have hn:=o2.dz;have hz':=bp hz;obtain⟨m',em⟩:∃m',Qs (λz=>z.push y) {cls:=.type "list",data:=.seq ys m}={cls:=.type "list",data:=.seq (ys.push y) m'}:=⟨_,rfl⟩;have hnew:(sh1.heap.update D (Qs λz=>z.push y)).get? D=some {cls:=.type "list",data:=.seq (ys.push y) m'}:=by
   simp only[QL _ o1' (congrArg _ em),em]
  have hnotImm:¬sa {cls:=.type "list",data:=.seq ys m}:=by
   rintro(⟨z,_⟩|z|⟨_,z⟩)
   .injection z with z;exact absurd z (by decide)
   .cases z
   .cases z
  refine nI (rt (tk:=sh1.toks) r1 d1 o1' hnotImm (Qo ..) hnew) λex zz up=>?_;have p2:=bX.rt (ng (by decide)) p1 (tk:=sh1.toks) d1 o1' hnotImm (Qo ..) hnew (λvs z=>by cases z);refine wpAny_bind (call_meets slot_list_append (ag _ o1' rfl) entry_list_append (args_list_append _ _) (AutoListH.list_append_list_val_0 D ys m y (by simp only[sizeLine_eq];exact r8 hn hz')) ⟨o1',wpAny_pure ?_⟩);refine kq g1 {sh1 with heap:=sh1.heap.update D (Qs λz=>z.push y),toks:=sh1.toks} (e1.nil.trans ex) p2 (bW _ m' hnew ?_);simp only[bx,Array.toList_push];exact aI.up up ((o2.ext e1).dZ (aI.fU q1))
noncomputable def BO:O->Bool
 |.list _=>true|.dict _=>true|_=>false
theorem OR.cls{a:Addr}{o:O}(hl:BO o=true)(q:OR S g h a o):∃ob,h.get? a=some ob/\ob.cls≠ .type "frame"/\¬sa ob:=by
 refine aO q.get λob h1 h2 zz=>?_;refine bk ob h1 ?_ h2;induction o with
 |list vs=>obtain⟨ys,m,k1,_⟩:=q;rw[k1] at h1;injection h1 with h1;exact h1▸ng (by decide)
 |dict es=>obtain⟨ds,m,k1,_⟩:=q;rw[k1] at h1;injection h1 with h1;exact h1▸ng (by decide)
 |set _=>exact ft hl|ns _=>exact ft hl|view _ _=>exact ft hl|dq _=>exact ft hl
theorem OR.jy{a:Addr}{o:O}{F fp:List Addr}(hl:BO o=true)(q:OR S g sh.heap a o)(d:xn S g F fp a)(r:aD S g s sh)(hX:a∉X)(e:aG S X g sh.heap g' sh'.heap):OR S g' sh'.heap a o/\xn S g' F fp a:=by refine aO (q.cls hl) λob h1 h2 zz=>?_;refine⟨q.ext e λob' h'=>?_,d.ext e h1⟩;rw[h1] at h';exact(PD h')▸e.keep a ob h1 d.ar hX (fy r d.new) h2
noncomputable def rv (S:SI) (A:Around) (ce te:PE) (ifsE:List PE) (D:Addr) (emit:PM->Sem Unit):Prop:=∀(it:Value) (env:PM) (R:Result->Shared->Prop) (sh:Shared),
 wpAny S.M A (pyNext it) (λr s₁=>match r with
  |none=>R (.ok .next) s₁|some v=>wpAny S.M A (letOwnedTupleGo te it v) (λzz s₁'=>wpAny S.M A (assign te env v) (λzz s₂=>wpAny S.M A (dJ ifsE true env) (λok s₃=>if ok=true then wpAny S.M A (emit env) (λzz s₄=>codeAny S.M A (.compLoop ce 0 it (.ref D) env) R s₄) (notedBy S.M A env λe s'=>R (.error e) s') s₃ else codeAny S.M A (.compLoop ce 0 it (.ref D) env) R s₃) (notedBy S.M A env λe s'=>R (.error e) s') s₂) (notedBy S.M A env λe s'=>R (.error e) s') s₁') (notedBy S.M A env λe s'=>R (.error e) s') s₁) (notedBy S.M A env λe s'=>R (.error e) s') sh->
 codeAny S.M A (.compLoop ce 0 it (.ref D) env) R sh
theorem Af{mk:β->O}{em:β->Lo->St->R β}{emit:PM->Sem Unit}{ce te:PE}{ifsE:List PE}{xs:List Nat}{is:List (Code V)}{D a:Addr}{fp:List Addr}{env:PM}{Rr:Result->Shared->Prop}{acc':β}{s':St}{g0:Gh}{h0:Heap}
  (hmk:∀acc,BO (mk acc)=true) (hstep:rv S A ce te ifsE D emit) (ht:g8 S sc xs te) (hts:gz S true n sc ctx is ifsE) (hem:nj S n sc mk em D emit) (hh:A.handled=none) (hd:∀z∈fp,h0.get? z=none)
  (dY:∀g' sh',aG S (D::env.locals::fp) g0 h0 g' sh'.heap->aD S g' s' sh'->OR S g' sh'.heap D (mk acc')->xn S g' (FX env) fp D->(∃lo2,bX S true n sc A g' s' sh' lo2 env)->Rr (.ok .next) sh'):
  ∀(k:Nat) (it:It) (acc:β) (lo:Lo) (g:Gh) (s:St) (sh:Shared),(it.eB=true\/fN te=true)->qm em xs (e.ifs is) ctx k it acc lo s=.ok acc' s'->bX S true n sc A g s sh (ru xs lo) env->
   kO S g sh.heap it a fp->bC S (D::FX env) g sh.heap fp->xn S g (FX env) fp D->OR S g sh.heap D (mk acc)->aG S (D::env.locals::fp) g0 h0 g sh.heap->codeAny S.M A (.compLoop ce 0 (.ref a) (.ref D) env) Rr sh:=by
 intro k;induction k with
 |zero=>intro it acc lo g s sh _ hk;exact kW hk|succ k ih=>
  intro it acc lo g s sh hfl hk p q w d o e0;rw[lF] at hk;refine hstep (.ref a) env Rr sh ?_;have wF:bC S (FX env) g sh.heap fp:=λz hz=>(w z hz).Bs λx m=>PL _ m;refine cJ (next it s) (λhn=>?_) λres hn=>?_
  .replace hk:=hn▸hk;exact kW hk
  .rw[hn] at hk;induction res with
   |none=>injection hk with u v;cases u;cases v;refine rm hh p.r q w hn λh' tk kk=>?_;refine dw (qU (tk:=tk) e0 p.r w kk hd) λe3 r3=>?_;have p3:=p.kA (tk:=tk) wF kk;exact dY g {sh with heap:=h',toks:=tk} e3 r3 (o.up (w.up kk) λob q=>kk D ob d.fp q) d ⟨_,p3⟩
   |some vi=>
    obtain⟨v,it'⟩:=vi;dsimp only at hk;refine cJ (bf xs v lo) (λhb=>?_) λlo' hb=>?_
    .replace hk:=hb▸hk;exact kW hk
    .rw[hb] at hk;refine aa (xq hb) λlo1 hb1 hsub=>?_;refine a8 (R.cj hk) λb s5 hb5 hk=>?_;refine ri hh p.r q w hfl hn λy h' tk kk live q3 qv=>?_;refine dw (gY (tk:=tk) p.r w kk live) λe3 r3=>?_;have p3:=p.kA (tk:=tk) wF kk;have w3:bC S (D::FX env) g h' fp:=λz hz=>by
      obtain⟨q1,q2',q3',q4,_⟩:=w z hz;exact⟨q1,q2',q3',q4,q3.objs z hz⟩
     have o3:OR S g h' D (mk acc):=o.up (w.up kk) λob q=>kk D ob d.fp q;have e03:aG S (D::env.locals::fp) g0 h0 g h':=e0.trans (e3.eg λx m=>.inl (PL _ (PL _ m)));refine(xp (sh:={sh with heap:=h',toks:=tk}) ht p3 qv hb1) _ _ λg4 sh4 zz e4 r4 af4=>?_;have p4:=(p3.l5 (BM e4) r4 af4).az hsub;obtain⟨o4,d4⟩:=OR.jy (sh:={sh with heap:=h',toks:=tk}) (hmk acc) o3 d p3.r (λm=>d.fx (by simp only[PI.mp m];exact PJ)) e4;have e4F:aG S (D::FX env) g h' g4 sh4.heap:=e4.eg λx m=>.inl (by simp only[PI.mp m];exact PL _ PJ);have q4:=q3.ext (sh:={sh with heap:=h',toks:=tk}) w3 p3.r e4F;have w4:=bC.ext (sh:={sh with heap:=h',toks:=tk}) w3 p3.r e4F;refine(Ab hts p4).use hb5 _ _ λg5 sh5 ok e5 r5 hok=>?_;obtain rfl:ok=b:=hok;have p5:=p4.step e5 r5;refine dw (OR.jy (X:=[]) (hmk acc) o4 d4 p4.r (λm=>nomatch m) e5) λo5 d5=>?_;have q5:=q4.ext w4 p4.r e5.nil;have w5:=bC.ext w4 p4.r (e5.nil (X:=D::FX env));have e05:aG S (D::env.locals::fp) g0 h0 g5 sh5.heap:=(e03.trans (e4.eg λx m=>.inl (by simp only[PI.mp m];exact PL _ PJ))).trans e5.nil;have subD:∀z w,ao (ru xs lo') z=some w->ao lo' z=some w:=λz w hw=>by
      rw[fP] at hw;split at hw
      .exact ns hw
      .exact hw
     have fl5:it'.eB=true\/fN te=true:=by
      refine QK hfl (λh=>?_) λh=>?_
      .exact .inl ((rn hn).trans h)
      .exact .inr h
     clear hb5 e5 w4 q4 e4F d4 o4 p4 af4 r4 e4 e03 o3 w3 p3 r3 e3 qv q3 live kk hsub hb1 hb hn wF e0 o d w q p hfl hts hstep;induction ok with
     |false=>exact ih it' acc lo' g5 s5 sh5 fl5 hk (p5.az subD) q5 w5 d5 o5 e05
     |true=>have hk:(em acc lo' s5).bind (λacc s=>qm em xs (e.ifs is) ctx k it' acc lo' s)=.ok acc' s':=hk;refine a8 (R.cj hk) λacc2 s6 hm6 hk=>?_;refine hem A g5 s5 sh5 lo' env fp acc acc2 s6 p5 d5 o5 hm6 _ _ λg6 sh6 e6 p6 o6=>?_;refine aa o5.get λob5 ho5 zz=>?_;have e6F:aG S (D::FX env) g5 sh5.heap g6 sh6.heap:=e6.eg λx m=>.inl (by simp only[PI.mp m];exact PJ);exact ih it' acc2 lo' g6 s6 sh6 fl5 hk (p6.az subD) (q5.ext w5 p5.r e6F) (bC.ext w5 p5.r e6F) (d5.ext e6 ho5) o6 (e05.trans (e6.eg λx m=>.inl (by simp only[PI.mp m];exact PJ)))
noncomputable def tj (sc:Sc) (scope:Scope):Bool:=
 (scope.kind==.function)&&decide ((scope.names.map (·.1)).Nodup)&&scope.names.all λp=>p.2==.local||p.2==.globalImplicit||(p.2==.free&&sc.lookup p.1==some .cell)
structure iA (sc:Sc) (scope:Scope):Prop where
 kind:scope.kind=.function
 nd:(scope.names.map (·.1)).Nodup
 all:∀p∈scope.names,p.2=.local\/p.2=.globalImplicit\/(p.2=.free/\sc.lookup p.1=some .cell)
theorem xt{scope:Scope}(h:tj sc scope=true):iA sc scope:=by
 unfold tj at h;simp only[QP,decide_eq_true_eq,Rq,Bool.or_eq_true,beq_iff_eq] at h;refine dw h λzz0 h3=>?_;refine dw zz0 λh1 h2=>?_;refine⟨h1,h2,λp m=>?_⟩;rcases h3 p m with(h|h)|h
 .exact .inl h
 .exact .inr (.inl h)
 .exact .inr (.inr h)
theorem eI{env:PM}{scope:Scope}(hc:∀x,(x,Qj)∈scope.names->∃c,env.cells.lookup x=some c):
  ∃cl,closureFor scope env=P2 cl/\(∀p∈cl,env.cells.lookup p.1=some p.2/\(p.1,Qj)∈scope.names)/\∀x,(x,Qj)∈scope.names->x∈cl.map (·.1):=by
 have t5:∀(names:List (Str×NameKind)) (acc:List (Str×Addr)),(∀x,(x,Qj)∈names->(x,Qj)∈scope.names/\∃c,env.cells.lookup x=some c)->(∀p∈acc,env.cells.lookup p.1=some p.2/\(p.1,Qj)∈scope.names)->
   ∃cl,(forIn names acc λ(x:Str×NameKind) r=>(if(x.2==Qj)=true then cellOf env x.1>>=λc=>(P2 (RD ((x.1,c)::r)):Sem (ForInStep (List (Str×Addr)))) else P2 (RD r)))=P2 cl/\(∀p∈cl,env.cells.lookup p.1=some p.2/\(p.1,Qj)∈scope.names)/\(∀x,(x,Qj)∈names->x∈cl.map (·.1))/\∀p∈acc,p∈cl:=by
  intro names;induction names with
  |nil=>intro acc _ ha;exact iH acc (List.forIn_nil) ha (λx m=>(by cases m)) (λp m=>m)|cons q names ih=>
   intro acc hc ha;obtain⟨x,k⟩:=q;rw[List.forIn_cons];cases hk:(k==Qj) with
   |false=>
    refine dQ (ih acc (λx m=>hc x (PL _ m)) ha) λcl h1 h2 h3 h4=>?_;refine iH cl ?_ h2 (λy m=>?_) h4
    .rw[if_neg (by simp),pure_bind];exact h1
    .rcases PU.mp m with e|m
     .injection e with u v;refine u▸?_;subst v;simp at hk
     .exact h3 y m
   |true=>
    obtain rfl:k=.free:=by simpa using hk
    obtain⟨hxs,c,hcx⟩:=hc x PJ;obtain⟨cl,h1,h2,h3,h4⟩:=ih ((x,c)::acc) (λx m=>hc x (PL _ m)) (λp m=>by
     rcases PU.mp m with rfl|m
     .exact⟨hcx,hxs⟩
     .exact ha p m)
    refine iH cl ?_ h2 (λy m=>?_) (λp m=>h4 p (PL _ m))
    .have ec:cellOf env x=P2 c:=by
      unfold cellOf;rw[hcx]
     rw[if_pos rfl,ec,pure_bind,pure_bind];exact h1
    .refine QK (PU.mp m) (λe=>?_) λm=>?_
     .cases e;exact QB.mpr (ag _ (h4 _ PJ) rfl)
     .exact h3 y m
 refine dQ (t5 scope.names [] (λx m=>⟨m,hc x m⟩) (λp m=>by exact nomatch m)) λcl h1 h2 h3 zz=>?_;refine bk cl ?_ h2 h3;refine h1▸?_;show(forIn scope.names [] _>>=λr=>P2 r)=_;rw[bind_pure]
theorem o7{Z:List Addr}{tk:Nat}{g0:Gh}{h0:Heap}(e:aG S X g0 h0 g sh.heap)(r:aD S g s sh)(hz:∀z∈Z,z∉g.ar/\z∉g.bH/\S.h0.get? z=none/\∀o,sh.heap.get? z=some o->¬sa o)(hk:∀a o,a∉Z->sh.heap.get? a=some o->h'.get? a=some o)(hd:∀a∈Z,h0.get? a=none):
  aG S X g0 h0 g h'/\aD S g s {sh with heap:=h',toks:=tk}/\Up g sh.heap g h':=by
 have hk':∀a o,sh.heap.get? a=some o->a∉Z->h'.get? a=some o:=λa o x y=>hk a o y x;have nf:∀ {a o},h0.get? a=some o->a∉Z:=λx m=>by rw[hd _ m] at x;exact ns x
 refine⟨{ar:=e.ar,c7:=e.c7,bH:=e.bH,dO:=e.dO,live:=λa o x=>?_,pZ:=λa o x i=>hk' a o (e.pZ a o x i) (nf x),cell:=λa o m x=>hk' a o (e.cell a o m x) (nf x),keep:=λa o x n1 n2 n3 n4=>hk' a o (e.keep a o x n1 n2 n3 n4) (nf x),c8:=λa o x n1 n2 n3=>?_},
  r.jw hk' (λz m=>(hz z m).2.1) (λz m=>(hz z m).1) (λz m=>(hz z m).2.2.2) (λz m=>(hz z m).2.2.1),
  ⟨Q2 _,λzz x=>x,λa o q i=>hk a o (λm=>(hz a m).2.2.2 o q i) q,λc o m q=>hk c o (λz=>(hz c z).2.1 m) q⟩⟩
 .obtain⟨o',y⟩:=e.live a o x;exact⟨o',hk' a o' y (nf x)⟩
 .refine PW (e.c8 a o x n1 n2 n3) λsl y=>?_;exact⟨sl,hk' a _ y (nf x)⟩
theorem Ag{it:It}{a:Addr}{fp:List Addr}{Q:Ec}{Ex:Ec}(q:kO S g sh.heap it a fp)(hf:it.eB=true)(h:Q (.ref a) sh):wpAny S.M A (pyIter (.ref a)) Q Ex sh:=by
 induction q with
 |list h1 h2=>exact wpAny_pyIter_listiter h2 h|av h1 h2 h3=>exact wpAny_pyIter_tupleiter h2 h|str h1 h2 h3=>
  rcases h1 with rfl|rfl
  .exact wpAny_pyIter_striter_ascii h2 h
  .exact wpAny_pyIter_striter_wide h2 h
 |range h1 h2=>exact wpAny_pyIter_rangeiter h1 h|fV h1 h2=>exact wpAny_pyIter_keyiter h2 h|items h1 h2=>exact ft hf|jE h1 h2 h3 h4=>exact ft hf|jF h1 h2 h3 h4 h5 h6=>exact ft hf
theorem jd{env:PM}(x:Str):∀(names:List (Str×NameKind)),(names.map λ(n,k)=>if(k==Qj&&env.scope.kind==.function&&env.kindOf n==some .cell) then(n,Rp) else(n,k)).lookup x=
  (names.lookup x).map λk=>if(k==Qj&&env.scope.kind==.function&&env.kindOf x==some .cell) then Rp else k
 |[]=>rfl|(m,k)::r=>by
  have ih:=jd (env:=env) x r;refine(?_:List.lookup x ((if(k==Qj&&env.scope.kind==.function&&env.kindOf m==some .cell)=true then(m,Rp) else(m,k))::_)=_);have key:(if(k==Qj&&env.scope.kind==.function&&env.kindOf m==some .cell)=true then(m,Rp) else(m,k))=(m,if(k==Qj&&env.scope.kind==.function&&env.kindOf m==some .cell)=true then Rp else k):=by split<;>rfl
  simp only[key,Qi,Qi];clear key;cases hx:x==m with
  |true=>
   obtain rfl:x=m:=by simpa using hx
   rfl
  |false=>exact ih
theorem mem_of_lookup{l:List (Str×Addr)}{x:Str}{c:Addr}(h:l.lookup x=some c):(x,c)∈l:=by
 induction l with
 |nil=>exact ns h|cons p l ih=>
  rw[Qi] at h;split at h
  .rename_i q;refine(PD h)▸?_;obtain rfl:x=p.1:=by simpa using q
   exact PJ
  .exact PL _ (ih h)
theorem jJ{l:List (Str×Addr)}{x:Str}(h:x∈l.map (·.1)):∃c,l.lookup x=some c:=by
 induction l with
 |nil=>cases h
 |cons p l ih=>
  rw[Qi];cases hx:x==p.1 with
  |true=>exact⟨_,rfl⟩|false=>
   rcases PU.mp h with e|m
   .rw[e] at hx;simp at hx
   .exact ih m
theorem cI{l:List (Str×NameKind)}(hn:(l.map (·.1)).Nodup){x:Str}{k:NameKind}(hm:(x,k)∈l):l.lookup x=some k:=by
 induction l with
 |nil=>cases hm
 |cons p l ih=>
  rw[Qe,Qv] at hn;refine Qi.trans ?_;rcases PU.mp hm with e|m
  .rw[<-e];simp
  .have:(x==p.1)=false:=by
    rw[beq_eq_false_iff_ne];intro e;exact hn.1 (QB.mpr (ag _ m e))
   refine this.symm▸?_;exact ih hn.2 m
theorem BP{env:PM}{lo:Lo}{scope:Scope}{cl:List (Str×Addr)}{xs:List Nat}{C:Addr}{tk:Nat}(p:bX S true n sc A g s sh lo env)(hc:iA sc scope)
  (hcl:∀q∈cl,env.cells.lookup q.1=some q.2/\(q.1,Qj)∈scope.names) (hcl2:∀x,(x,Qj)∈scope.names->x∈cl.map (·.1)) (hxs:∀x,x<S.nm.length->scope.names.lookup (S.n x)=some .local->x∈xs)
  (hk:∀b o,sh.heap.get? b=some o->h'.get? b=some o) (hC:sh.heap.get? C=none) {m:Str->Option Value} (oE:h'.Ns C m) (hcc:∃o,h'.get? C=some o/\o.cls=.type "dict"):bX S true n scope.names A g s {sh with heap:=h',toks:=tk} (ru xs lo) (compEnvC scope cl C env):=by
 have e:aG S [] g sh.heap g h':=aG.bq hk;have r':aD S g s {sh with heap:=h',toks:=tk}:=p.r.bq hk;have p':=p.step e r';have deadC:C∉g.ar/\S.h0.get? C=none:=by refine⟨λm=>?_,p.r.fresh hC⟩;obtain⟨i,hi⟩:=PR.mp m;refine aa (p.r.bc i C hi) λo' _ h2=>?_;refine aa h2.get λob h3 _=>?_;rw[hC] at h3;exact ns h3
 have kinds:∀x,(compEnvC scope cl C env).kindOf x=(scope.names.lookup x).map λk=>if(k==Qj&&env.scope.kind==.function&&env.kindOf x==some .cell) then Rp else k:=λx=>jd x scope.names
 have locs:∀x k,scope.names.lookup x=some k->k≠ .free->(compEnvC scope cl C env).kindOf x=some k:=λx k hx hf=>by
  simp only[kinds,hx];have:(k==Qj)=false:=by simpa using hf
  simp only[Option.map_some,this,Bool.false_and,Bool.false_and];rfl
 have frees:∀x,scope.names.lookup x=some .free->(compEnvC scope cl C env).kindOf x=some .cell/\env.kindOf x=some .cell/\∃c,cl.lookup x=some c/\env.cells.lookup x=some c:=λx hx=>by
  have hm:=bh hx;rcases hc.all _ hm with h|h|⟨_,h⟩
  .cases h
  .exact nomatch h
  .obtain⟨k1,k2⟩:=(p.sc x).2.2 (congrArg _ h);replace k1:=k1.trans h;obtain⟨c,hcx⟩:=jJ (hcl2 x hm);refine⟨?_,k1,c,hcx,(hcl _ (mem_of_lookup hcx)).1⟩;simp only[kinds,hx,Option.map_some,k1,p.e.kind];rfl
 refine⟨p'.a,p.gu,⟨λx c m q=>p.vW.pU x c m (hcl _ (mem_of_lookup q)).1,λx hx=>(by refine((frees x hx).1).symm▸?_;exact nofun),λx c q hx _=>(by rcases hc.all _ (bh hx) with h|h|⟨h,_⟩<;>cases h)⟩,λx c q hm=>?_,λx=>⟨?_,λhx=>?_,λhx=>?_⟩,⟨hc.kind,p.e.globals,p.e.builtins,gy oE,deadC.1,deadC.2,λx y c hx hy=>?_,?_,λc hc'=>?_⟩,r',m,oE,λx v hl=>?_⟩
 .exact cI hc.nd (hcl _ (mem_of_lookup q)).2
 .cases hx:scope.names.lookup x with
  |none=>simp only[kinds,hx];rfl|some k=>
   by_cases hf:k=.free
   .subst hf;refine((frees x hx).1).symm▸?_;rfl
   .rw[locs x k hx hf]
 .exact locs x _ hx (by simp)
 .cases hq:scope.names.lookup x with
  |none=>rw[hq] at hx;exact ft hx|some k=>
   rw[hq] at hx;rcases hc.all _ (bh hq) with h|h|⟨h,_⟩
   .have h:k=.local:=h;subst h;have:=locs x _ hq (by simp);exact⟨this,λz=>by rw[this] at z;injection z with z;cases z⟩
   .have h:k=.globalImplicit:=h;subst h;exact ft hx
   .have h:k=.free:=h;clear right oE;subst h;exact ft hx
 .have hx:=(hcl _ (mem_of_lookup hx)).1;have hy:=(hcl _ (mem_of_lookup hy)).1;exact p.e.inj x y c hx hy
 .refine aa hcc λo k1 k2=>?_;refine ag o k1 ?_;exact k2
 .refine aa (QB.mp hc') λq hq z2=>?_;exact z2▸p'.e.cells q.2 (aQ (hcl q hq).1)
 .rw[fP] at hl;split at hl
  .exact ns hl
  .rename_i hnx;refine aa p'.l λm' _ hv=>?_;refine dw (hv x v hl) λh1 h2=>?_;refine⟨h1,?_⟩;refine cJ (scope.names.lookup (S.n x)) (λhq=>?_) λk hq=>?_
   .rw[kinds,hq];trivial
   .rcases hc.all _ (bh hq) with h|h|⟨h,_⟩
    .have h:k=.local:=h;subst h;exact absurd (hxs x h1 hq) hnx
    .have h:k=.globalImplicit:=h;subst h;rw[locs _ _ hq (by simp)];trivial
    .have h:k=.free:=h;clear right hv hl hnx p' hxs p;subst h;obtain⟨f1,f2,c,f3,f4⟩:=frees _ hq;rw[f2] at h2;refine aw h2 λc' y z1 z2 z3=>?_;rw[f4] at z1;obtain rfl:=PD z1;rw[f1];exact bQ c y f3 z2 z3
theorem o8{mk:β->O}{em:β->Lo->St->R β}{emit:Addr->PM->Sem Unit}{ce te:PE}{ifsE:List PE}{xs:List Nat}{is:List (Code V)}{a:Addr}{fp:List Addr}{env:PM}{scope:Scope}{cl:List (Str×Addr)}
  {Rr:Value->Addr->Result->Shared->Prop} {acc0 acc':β} {s2 s':St} {g2:Gh} {sh2:Shared} {h0:Heap} {g0:Gh} {lo:Lo} {it:It} {newAcc:Sem Value} {accObj:Obj} {Ex:Ec}
  (hmk:∀acc,BO (mk acc)=true) (hstep:∀D,rv S A ce te ifsE D (emit D)) (ht:g8 S scope.names xs te) (hts:gz S true n scope.names ctx is ifsE) (hem:∀D,nj S n scope.names mk em D (emit D))
  (p:bX S true n sc A g2 s2 sh2 lo env) (e0:aG S [] g0 h0 g2 sh2.heap) (qi:kO S g2 sh2.heap it a fp) (wi:bC S (FX env) g2 sh2.heap fp) (hd:∀z∈fp,h0.get? z=none) (hfl:it.eB=true)
  (hc:iA sc scope) (hcl:∀q∈cl,env.cells.lookup q.1=some q.2/\(q.1,Qj)∈scope.names) (hcl2:∀x,(x,Qj)∈scope.names->x∈cl.map (·.1)) (hxs:∀x,x<S.nm.length->scope.names.lookup (S.n x)=some .local->x∈xs)
  (hg:qm em xs (e.ifs is) ctx ctx.n it acc0 lo s2=.ok acc' s')
  (hnf:accObj.isFreed=false) (hacc:OR S g2 (sh2.heap.push accObj) sh2.heap.objs.size (mk acc0)) (hnew:∀Q:Value->Shared->Prop,Q (.ref sh2.heap.objs.size) {sh2 with heap:=sh2.heap.push accObj}->wpAny S.M A newAcc Q Ex sh2)
  (hstart:∀(D:Addr) (cenv:PM) (R:Result->Shared->Prop) (sh:Shared),codeAny S.M A (.compLoop ce 0 (.ref a) (.ref D) cenv) R sh->(∀(Q:Ec) (Ex:Ec),Q (.ref a) sh->wpAny S.M A (pyIter (.ref a)) Q Ex sh)->codeAny S.M A (.compStart ce 0 (.ref a) (.ref D) cenv) R sh)
  (post:∀g' sh' D C cenv lo2,aG S (D::C::fp) g0 h0 g' sh'.heap->OR S g' sh'.heap D (mk acc')->xn S g' (FX cenv) fp D->bX S true n scope.names A g' s' sh' lo2 cenv->cenv.locals=C->h0.get? D=none->h0.get? C=none->Rr (.ref D) C (.ok .next) sh'):
  wpAny S.M A newAcc (λacc s₃=>wpAny S.M A (newFunctionEnv scope env.globals cl [] env.qual none .none (some env)) (λcenv s₄=>codeAny S.M A (.compStart ce 0 (.ref a) acc {cenv with scope:=relabel scope env}) (Rr acc cenv.locals) s₄) Ex s₃) Ex sh2:=by
 have hh:=p.a.hd rfl;refine hnew _ ?_;refine DL (λx hx hq=>?_) (λh₁ oE hsb hcc=>?_)
 .rcases hc.all x hx with h|h|⟨h,_⟩<;>replace h:=hq.symm.trans h<;>cases h
 dsimp only at oE hsb⊢;have hC:(sh2.heap.push accObj).objs.size=sh2.heap.objs.size+1:=Heap.size_push ..;have hDC:sh2.heap.objs.size≠(sh2.heap.push accObj).objs.size:=by simp only[hC];exact Qw (P1 _)
 have hCd:sh2.heap.get? (sh2.heap.push accObj).objs.size=none:=Qf (by simp only[hC];exact R5 _);have hDd:sh2.heap.get? sh2.heap.objs.size=none:=dj _;have old:∀b o,sh2.heap.get? b=some o->h₁.get? b=some o:=λb o e=>hsb.extBut b o (λz=>by rw[z,hCd] at e;exact nomatch e) (PO _ (PO _ e));have hD1:∀o,(sh2.heap.push accObj).get? sh2.heap.objs.size=some o->h₁.get? sh2.heap.objs.size=some o:=λo e=>hsb.extBut _ o hDC (PO _ e);have pc:=BP (tk:=sh2.toks+([]:List (Str×Value)).length) p hc hcl hcl2 hxs old hCd oE hcc;have alive:∀z∈fp,∃o,sh2.heap.get? z=some o:=λz hz=>a8 ((wi z hz).bc) λo zz h1 zz=>⟨o,h1⟩;have fxc:∀z∈FX (compEnvC scope cl (sh2.heap.push accObj).objs.size env),z=(sh2.heap.push accObj).objs.size\/z∈FX env:=λz hz=>by
  rcases PU.mp hz with h|h
  .exact .inl h
  .refine aa (QB.mp h) λq hq z2=>?_;exact z2▸ .inr (PL _ (aQ (hcl q hq).1))
 have dok:xn S g2 (FX (compEnvC scope cl (sh2.heap.push accObj).objs.size env)) fp sh2.heap.objs.size:=by
  refine⟨λm=>?_,λm=>?_,p.r.fresh hDd,λm=>?_,λm=>?_⟩
  .obtain⟨i,hi⟩:=PR.mp m;refine aa (p.r.bc i _ hi) λo' zz h2=>?_;refine aa h2.get λob h3 zz=>?_;rw[hDd] at h3;exact nomatch h3
  .refine aa (p.r.bH _ m) λo h1 zz=>?_;rw[hDd] at h1;exact nomatch h1
  .refine QK (fxc _ m) (λh=>?_) λh=>?_
   .exact hDC h
   .obtain⟨o,h1⟩:=fB p.e _ h;rw[hDd] at h1;exact nomatch h1
  .obtain⟨o,h1⟩:=alive _ m;rw[hDd] at h1;exact nomatch h1
 have ow:bC S (sh2.heap.objs.size::FX (compEnvC scope cl (sh2.heap.push accObj).objs.size env)) g2 h₁ fp:=λz hz=>by
  obtain⟨q1,q2,q3,q4,o,vs,q5,q6,q7⟩:=wi z hz;refine⟨q1,q2,λm=>?_,q4,o,vs,old z o q5,q6,q7⟩;rcases PU.mp m with h|h
  .rw[h,hDd] at q5;exact nomatch q5
  .refine QK (fxc _ h) (λh=>?_) λh=>?_
   .rw[h,hCd] at q5;exact nomatch q5
   .exact q3 h
 have ext1:aG S [] g2 sh2.heap g2 h₁:=aG.bq old;have qi1:=qi.ext (sh':={sh2 with heap:=h₁}) wi p.r ext1.nil;have o1:OR S g2 h₁ sh2.heap.objs.size (mk acc0):=by
  refine hacc.up (g':=g2) (h':=h₁) ⟨Q2 _,λzz x=>x,λb o q zz=>?_,λb o zz q=>?_⟩ λob q=>hD1 ob q
  all_goals
   refine hsb.extBut b o (λz=>?_) (PO _ q);rw[z,dj] at q;exact nomatch q
 refine(?_:codeAny S.M A (.compStart ce 0 (.ref a) (.ref sh2.heap.objs.size) (compEnvC scope cl (sh2.heap.push accObj).objs.size env)) (Rr (.ref sh2.heap.objs.size) (sh2.heap.push accObj).objs.size) _);refine hstart _ _ _ _ ?_ λQ Ex' hq=>Ag qi1 hfl hq;refine Af (fp:=fp) (env:=compEnvC scope cl (sh2.heap.push accObj).objs.size env) (g0:=g0) (h0:=h0) hmk (hstep _) ht hts (hem _) hh hd (λg' sh' x1 x2 x3 x4 x5=>?_) ctx.n it acc0 lo g2 s2 _ (.inl hfl) hg pc qi1 ow dok o1 (e0.trans ext1).nil;obtain⟨lo2,x5⟩:=x5;exact post g' sh' _ _ _ lo2 x1 x3 x4 x5 rfl (e0.dG hDd) (e0.dG hCd)
theorem o9{mk:O}{fp:List Addr}{D C:Addr}{cenv:PM}{lo2:Lo}{g0:Gh}{h0:Heap}{tk:Nat}(hl:BO mk=true)(e:aG S (D::C::fp) g0 h0 g sh.heap)(o:OR S g sh.heap D mk)(d:xn S g (FX cenv) fp D)(p:bX S hN n sc A g s sh lo2 cenv)(hC:cenv.locals=C)(dD:h0.get? D=none)(dC:h0.get? C=none)(hf:∀z∈fp,h0.get? z=none)
  (hs:P0 C sh.heap h'):aG S [] g0 h0 (g.add D) h'/\aD S (g.add D) (s.new mk) {sh with heap:=h',toks:=tk}/\VR S (g.add D) h' (.ar s.n) (.ref D):=by
 subst hC;have nf:cenv.locals∉g.bH:=λm=>by refine aa p.l λmm hmm zz=>?_;exact kY (p.r.bH _ m) hmm
 have hk:∀a o,a∉[cenv.locals]->sh.heap.get? a=some o->h'.get? a=some o:=λa o m q=>(hs.2 a λe=>m (by simp only[e];exact Q9 _)).trans q;obtain⟨e1,r1,up⟩:=o7 (Z:=[cenv.locals]) (tk:=tk) e p.r (λz hz=>by refine(PI.mp hz).symm▸?_;refine aO p.e.here λoo k1 k2 zz=>?_;exact Ia p.e.qN nf p.e.jM (λo q=>by replace q:=k1.symm.trans q;refine(PD q)▸?_;exact k2)) hk (λz hz=>by refine(PI.mp hz).symm▸?_;exact dC)
 have hDC:D≠cenv.locals:=λz=>d.fx (by simp only[z];exact PJ);have o1:OR S g h' D mk:=o.up up λob q=>hk D ob (λm=>hDC (PI.mp m)) q;refine aa o1.get λob ho zz=>?_;refine j2 ((e1.uj dD).eg λx m=>.inr ?_) (r1.uj d.ar d.new (o1.up (Up.uj g _ _) λzz x=>x)) ?_
 .clear ho o1 hDC e1 e p d o hl;rcases PU.mp m with rfl|m
  .exact dD
  .rcases PU.mp m with rfl|m
   .exact dC
   .exact hf x m
 .unfold VR;exact ag D (Gh.gU r1 D) rfl
noncomputable def tm (S:SI) (hN:Bool) (n:Nat) (sc:Sc) (ctx:Ctx) (c:Code It) (pe:PE):Prop:=∀A g s sh lo env,bX S hN n sc A g s sh lo env->∃VP:Gh->Heap->It->Value->Prop,W S [] A VP (eval pe env) g sh (c ctx lo s)/\
 ∀it g1 s1 sh1 y,c ctx lo s=.ok it s1->aG S [] g sh.heap g1 sh1.heap->aD S g1 s1 sh1->VP g1 sh1.heap it y->W S [] A (VI S (FX env) sh.heap) (pyIter y) g1 sh1 (.ok it s1)
theorem Fz(c:Code V)(lo:Lo)(s:St):j5 0 [c] ctx lo s=(c ctx lo s).bind λv s=>gN 55 (fJ v s) s:=by refine(?_:(gO [c] ctx lo s).bind _=_);rw[m9,R.bind_assoc];rfl
theorem Ju{c:Code V}{pe:PE}(w:aF S hN n sc ctx c pe):tm S hN n sc ctx (j5 0 [c]) pe:=λA g s sh lo env p=>by
 refine⟨λg' h it y=>∃v s1,c ctx lo s=.ok v s1/\fJ v s1=some it/\VR S g' h v y,?_,λit g1 s1 sh1 y he e1 r1 q1=>?_⟩
 .simp only[Fz];have w':=w A g s sh lo env p;cases hc:c ctx lo s with
  |no k=>trivial|ez k s1=>simp only[hc] at w';exact λhh Q Ex hq=>w' hh Q Ex hq|ok v s1=>simp only[hc] at w';refine W.lW λit cE=>λQ Ex k=>w' Q Ex λg' sh' y e r q=>k g' sh' y e r (bQ v s1 rfl cE q)
 .refine aw q1 λv s2 h1 h2 h3=>?_;rw[Fz,h1] at he;have he:gN 55 (fJ v s2) s2=.ok it s1:=he;replace he:=h2▸he;clear h1 q1 w;cases he;have:=uT (A:=A) (w':=55) r1 (fB (p.step e1 r1).e) h3;simp only[h2] at this;exact this.sQ λg' h' b a q=>q.sr λz=>e1.dG
noncomputable def L9 (r:R It):Bool:=match r with|.ok it _=>it.eB|_=>true
set_option tactic.hygienic true in
theorem pd{cs:List (Code V)}{lo:Lo}{s s':St}{it:It}(h:j5 1 cs ctx lo s=.ok it s'):it.eB=true:=by
 refine a8 (R.cj h) λvs s1 h1 h2=>?_;refine(congrArg L9 h2).symm.trans ?_;clear h2 h1 h;cases vs with
 |nil=>exact tt|cons a vs=>
  cases vs with
  |nil=>
   cases a<;>try exact tt
   rename_i m;refine(?_:L9 (match small m with|true=>R.ok (It.range 0 m) s1|false=>.no 50)=_);cases small m<;>exact tt
  |cons b vs=>
   induction vs with
   |cons _ _=>exact tt|nil=>
    cases a<;>try exact tt
    cases b<;>try exact tt
    rename_i i m;refine(?_:L9 (match aP (small i) (small m) with|true=>R.ok (It.range i m) s1|false=>.no 50)=_);cases aP (small i) (small m)<;>exact tt
set_option tactic.hygienic true in
theorem Eh{y:Str}{np pos:Pos}{cs:List (Code V)}{pes:List PE}(hk:sc.lookup y=some .globalImplicit)(hd:(y==("__debug__":Str))=false)(hv:S.cQ y=some (.type "range"))(q:bM S hN n sc ctx cs pes):tm S hN n sc ctx (j5 1 cs) (.Call (.Name y np) pes [] pos):=λA g s sh lo env p=>by
 refine ag xi ?_ (λit g1 s1 sh1 y he e1 r1 q1=>?_)
 .unfold j5;refine lD hk hd hv q p λvs s1 g1 sh1 ys e1 p1 q1=>?_;cases vs with
  |nil=>trivial|cons a vs=>
   cases vs with
   |nil=>
    refine aa q1.fO λz z1 q2=>?_;refine z1▸?_;cases a<;>try trivial
    rename_i m;obtain⟨t,rfl⟩:=q2.aB;dsimp only;cases hm:small m with
    |false=>trivial|true=>exact jt (r:=p1.r) (ta:=.none) (tb:=.none) (by decide) hm λQ Ex k=>call_range_1 k
   |cons b vs=>
    induction vs with
    |cons _ _=>trivial|nil=>
     refine aw q1.wY λz1 z2 z2 q2 q3=>?_;refine z2▸?_;clear z2 q hv hd hk;cases a<;>try trivial
     cases b<;>try trivial
     rename_i i m;obtain⟨t,rfl⟩:=q2.aB;obtain⟨u,rfl⟩:=q3.aB;dsimp only;cases hm:aP (small i) (small m) with
     |false=>trivial|true=>exact jt (r:=p1.r) (ta:=.none) (tb:=.none) (aL.mp hm).1 (aL.mp hm).2 λQ Ex k=>call_range_2 k
 .refine yf q1 λr i m t u v z6 z7 hr hsm=>?_;refine z6▸?_;refine z7▸?_;refine xh r1 (fB (p.step e1 r1).e) (λz=>e1.dG) (λ_ _ e=>e) rfl (ng (by decide)) (.range (PQ _ rfl) (oY i m)) λQ Ex k=>wpAny_pyIter_range hr hsm ?_;exact k sh1.toks
theorem xu{R:Result->Shared->Prop}{elt te ie:PE}{ifsE:List PE}{scope:Scope}{pos:Pos}{a D:Addr}{cenv:PM}(h0:codeAny S.M A (.compLoop (.ListComp elt [⟨te,ie,ifsE,0⟩] scope pos) 0 (.ref a) (.ref D) cenv) R sh)
  (hi:∀(Q:Ec) (Ex:Ec),Q (.ref a) sh->wpAny S.M A (pyIter (.ref a)) Q Ex sh):codeAny S.M A (.compStart (.ListComp elt [⟨te,ie,ifsE,0⟩] scope pos) 0 (.ref a) (.ref D) cenv) R sh:=
 codeAny_compStart_list h0 (hi _ _ h0)
theorem FA{x:Code V}{ci:Code It}{is:List (Code V)}{elt te ie:PE}{ifsE:List PE}{xs:List Nat}{scope:Scope}{pos cpos:Pos}{use:Option (Value->Sem Unit)}{A:Around}{g:Gh}{s:St}{sh:Shared}{lo:Lo}{env:PM}{it:It}{s1 sF:St}{vs:List V}
  (hs:i8 ie=true) (wj:tm S true n sc ctx ci ie) (hfl:∀lo s it s',ci ctx lo s=.ok it s'->it.eB=true) (hc:iA sc scope) (hxs:∀x,x<S.nm.length->scope.names.lookup (S.n x)=some .local->x∈xs) (ht:g8 S scope.names xs te) (hts:gz S true n scope.names ctx is ifsE) (wx:aF S true n scope.names ctx x elt)
  (p:bX S true n sc A g s sh lo env) (hi:ci ctx lo s=.ok it s1) (hv:e.fb x xs (e.ifs is) ctx ctx.n it [] lo s1=.ok vs sF) {Q:Ec} {Ex:Ec}
  (post:∀fp g' sh' D C cenv lo2,(∀z∈fp,sh.heap.get? z=none)->aG S (D::C::fp) g sh.heap g' sh'.heap->OR S g' sh'.heap D (.list vs)->xn S g' (FX cenv) fp D->bX S true n scope.names A g' sF sh' lo2 cenv->cenv.locals=C->sh.heap.get? D=none->sh.heap.get? C=none->compPost S.M A Ex use Q (.ref D) C (.ok .next) sh'):
  wpAny S.M A (comprehension (.ListComp elt [⟨te,ie,ifsE,0⟩] scope pos) scope env cpos (newList []) false (eval ie env) use) Q Ex sh:=by
 obtain⟨cl,c1,c2,c3⟩:=eI (env:=env) (scope:=scope) λy hy=>by
  rcases hc.all _ hy with h|h|⟨_,h⟩
  .cases h
  .cases h
  .refine dw ((p.sc y).2.2 (congrArg _ h)) λk1 k2=>?_;exact k2 (by simp only[k1,h])
 refine aa (wj A g s sh lo env p) λVP w1 w2=>?_;rw[Eg] at hv;refine wpAny_comprehension_free (g:=⟨te,ie,ifsE,0⟩) (gs:=[]) rfl (cH hs env) c1 hc.kind (λy hy hl=>cI hc.nd (show(y.1,NameKind.local)∈scope.names by refine hl▸?_;exact hy)) ?_;refine(w1.use hi) _ _ λg1 sh1 y e1 r1 q1=>?_;refine(w2 it g1 s1 sh1 y hi e1 r1 q1) _ _ λg2 sh2 ity e2 r2 q2=>?_;refine bK q2 λa fp z2 qi wi hd=>?_;refine z2▸?_;have p2:=(p.step e1 r1).step e2 r2;refine o8 (mk:=O.list) (emit:=λD env=>eval elt env>>=λx=>P6 (.builtin "list.append") [.ref D,x]>>=λzz=>P2 ()) (accObj:={cls:=.type "list",data:=.seq ([]:List Value).toArray}) (acc0:=[]) (λzz=>rfl) (λD it env R sh h=>Ac it (.ref D) env R sh h) ht hts (λD=>Ae wx) p2 (e1.trans e2) qi wi hd (hfl _ _ _ _ hi) hc c2 c3 hxs hv rfl
  (bW (#[]) (0) (PQ _ rfl) aI.nil) (λQ hq=>wpAny_newObj_type hq) (λD cenv R sh h0 hi=>xu h0 hi) λg' sh' D C cenv lo2 x1 x2 x3 x4 x5 x6 x7=>?_
 exact post fp g' sh' D C cenv lo2 hd x1 x2 x3 x4 x5 x6 x7
theorem GZ{x:Code V}{ci:Code It}{is:List (Code V)}{elt te ie:PE}{ifsE:List PE}{xs:List Nat}{scope:Scope}{pos:Pos}
  (hs:i8 ie=true) (wj:tm S true n sc ctx ci ie) (hfl:∀lo s it s',ci ctx lo s=.ok it s'->it.eB=true) (hc:iA sc scope) (hxs:∀x,x<S.nm.length->scope.names.lookup (S.n x)=some .local->x∈xs) (ht:g8 S scope.names xs te) (hts:gz S true n scope.names ctx is ifsE) (wx:aF S true n scope.names ctx x elt):
  aF S true n sc ctx (e.comp x xs ci is) (.ListComp elt [⟨te,ie,ifsE,0⟩] scope pos):=λA g s sh lo env p=>by
 refine(?_:W S [] A (VR S) (comprehension (.ListComp elt [⟨te,ie,ifsE,0⟩] scope pos) scope env ie.pos (newList []) false (eval ie env)) g sh ((ci ctx lo s).bind λit s=>(Mp.bb (e.fb x xs (e.ifs is) ctx ctx.n it [] lo s)).bind λvs s=>.ok (.ar s.n) (s.new (.list vs))));cases hi:ci ctx lo s with
 |no k=>trivial|ez k s1=>
  obtain⟨cl,c1,c2,c3⟩:=eI (env:=env) (scope:=scope) λy hy=>by
   rcases hc.all _ hy with h|h|⟨_,h⟩
   .cases h
   .cases h
   .refine dw ((p.sc y).2.2 (congrArg _ h)) λk1 k2=>?_;exact k2 (by simp only[k1,h])
  refine aa (wj A g s sh lo env p) λVP w1 w2=>?_;simp only[hi] at w1;exact λhh Q Ex hq=>wpAny_comprehension_free (g:=⟨te,ie,ifsE,0⟩) (gs:=[]) rfl (cH hs env) c1 hc.kind (λy hy hl=>cI hc.nd (show(y.1,NameKind.local)∈scope.names by refine hl▸?_;exact hy)) (w1 hh _ Ex hq)
 |ok it s1=>
  refine(?_:W S [] A (VR S) _ g sh ((Mp.bb (e.fb x xs (e.ifs is) ctx ctx.n it [] lo s1)).bind λvs s=>.ok (.ar s.n) (s.new (.list vs))));cases hv:e.fb x xs (e.ifs is) ctx ctx.n it [] lo s1 with
  |no k=>trivial|ez k s2=>trivial|ok vs sF=>refine λQ Ex kq=>FA hs wj hfl hc hxs ht hts wx p hi hv λfp g' sh' D C cenv lo2 hd x1 x2 x3 x4 x5 x6 x7=>?_;refine aa x4.l λm hm zz=>?_;rw[x5] at hm;refine ag m hm (λh' hsb=>?_);refine nI (o9 (tk:=sh'.toks) rfl x1 x2 x3 x4 x5 x6 x7 hd hsb) λr1 r2 r3=>?_;exact kq _ _ _ r1 r2 r3
theorem gx.Jv{env:PM}{lo:Lo}{C:Addr}(af:gx S env g h lo)(up:Up g h g h')(hk:∀a o,a∉[C]->h.get? a=some o->h'.get? a=some o)(hC:C∉FX env):gx S env g h' lo:=by
 have keep:∀c o,c∈FX env->h.get? c=some o->h'.get? c=some o:=λc o hc ho=>hk c o (λm=>hC (by refine PI.mp m▸?_;exact hc)) ho;have cellK:∀ {c v},c∈env.cells.map (·.2)->h.IsCell c v->h'.IsCell c v:=λ {c v} hc ⟨o,h1,h2⟩=>ag o (keep c o (PL _ hc) h1) h2;refine aa af.l λm hm hv=>?_;have hm':h'.Ns env.locals m:=by refine fY hm λo es ep q1 q2=>?_;exact lU o es ep (keep _ o PJ q1) q2
 refine⟨⟨af.e.kind,af.e.globals,af.e.builtins,gy hm',af.e.qN,af.e.jM,af.e.inj,(by
  refine aa af.e.sq λo1 k1 k2=>?_;exact ag o1 (keep _ o1 PJ k1) k2),λc hc=>?_⟩,m,hm',λx v q=>?_⟩
 .obtain⟨h1,h2,v,h3⟩:=af.e.cells c hc;exact⟨h1,h2,v,cellK hc h3⟩
 .refine dw (hv x v q) λh1 h2=>?_;refine⟨h1,?_⟩;split at h2
  .refine aa h2 λu k1 k2=>?_;exact ag u k1 (k2.up up)
  .obtain⟨c,u,k1,k2,k3⟩:=h2;exact⟨c,u,k1,cellK (aQ k1) k2,k3.up up⟩
  .obtain⟨c,u,k1,k2,k3⟩:=h2;exact⟨c,u,k1,cellK (aQ k1) k2,k3.up up⟩
  .trivial
theorem Ah{y:Nat}{yn:Str}{np spos:Pos}{x:Code V}{ci:Code It}{is:List (Code V)}{elt te ie:PE}{ifsE:List PE}{xs:List Nat}{scope:Scope}{pos:Pos}
  (hyn:yn=S.n y) (hy:y<S.nm.length) (hyk:sc.lookup yn=some .local) (hsw:∀env:PM,env.scope.kind=.function->env.kindOf yn=some .local->swapsWith (.ListComp elt [⟨te,ie,ifsE,0⟩] scope pos) (some (.Name yn np)) spos.line env=P2 true)
  (hs:i8 ie=true) (wj:tm S true n sc ctx ci ie) (hfl:∀lo s it s',ci ctx lo s=.ok it s'->it.eB=true) (hc:iA sc scope) (hxs:∀x,x<S.nm.length->scope.names.lookup (S.n x)=some .local->x∈xs) (ht:g8 S scope.names xs te) (hts:gz S true n scope.names ctx is ifsE) (wx:aF S true n scope.names ctx x elt):
  fe S true n sc ctx (Mp.s.aq (t.vr y) (e.comp x xs ci is)) (.Assign [.Name yn np] (.ListComp elt [⟨te,ie,ifsE,0⟩] scope pos) spos):=λA g s sh lo env p=>by
 have hkind:=((p.sc yn).2.2 (congrArg _ hyk)).1;replace hkind:=hkind.trans hyk;rw[exec_Assign_Name_used yn np _ spos (hsw env p.e.kind hkind)];show W S (FX env) A (VS S env) (standAt spos>>=λzz=>(comprehension (.ListComp elt [⟨te,ie,ifsE,0⟩] scope pos) scope env ie.pos (newList []) false (eval ie env) (some (assign (.Name yn np) env))>>=λzz=>P2 ())>>=λzz=>P2 PySem.Flow.next) g sh
  (((ci ctx lo s).bind λit s=>(Mp.bb (e.fb x xs (e.ifs is) ctx ctx.n it [] lo s)).bind λvs s=>R.ok (V.ar s.n) (s.new (.list vs))).bind λv s=>((t.vr y) v ctx lo s).bind λlo s=>.ok (.next,lo) s)
 refine W.aT ?_;clear hkind hsw spos;cases hi:ci ctx lo s with
 |no k=>trivial|ez k s1=>
  obtain⟨cl,c1,c2,c3⟩:=eI (env:=env) (scope:=scope) λy hy=>by
   rcases hc.all _ hy with h|h|⟨_,h⟩
   .cases h
   .cases h
   .refine dw ((p.sc y).2.2 (congrArg _ h)) λk1 k2=>?_;exact k2 (by simp only[k1,h])
  refine aa (wj A g s sh lo env p) λVP w1 w2=>?_;simp only[hi] at w1;exact λhh Q Ex hq=>wpAny_bind (wpAny_bind (wpAny_comprehension_free (g:=⟨te,ie,ifsE,0⟩) (gs:=[]) rfl (cH hs env) c1 hc.kind (λy hy hl=>cI hc.nd (show(y.1,NameKind.local)∈scope.names by refine hl▸?_;exact hy)) (w1 hh _ Ex λg' sh' e a b c=>hq g' sh' e a.nil b c)))
 |ok it s1=>
  cases hv:e.fb x xs (e.ifs is) ctx ctx.n it [] lo s1 with
  |no k=>refine(?_:W S (FX env) A (VS S env) _ g sh (((Mp.bb (e.fb x xs (e.ifs is) ctx ctx.n it [] lo s1)).bind _).bind _));refine hv.symm▸?_;trivial|ez k s2=>show W S (FX env) A (VS S env) _ g sh (((Mp.bb (e.fb x xs (e.ifs is) ctx ctx.n it [] lo s1)).bind _).bind _);rw[hv];trivial|ok vs sF=>
   show W S (FX env) A (VS S env) _ g sh (((Mp.bb (e.fb x xs (e.ifs is) ctx ctx.n it [] lo s1)).bind λvs s=>R.ok (V.ar s.n) (s.new (.list vs))).bind λv s=>((t.vr y) v ctx lo s).bind λlo s=>.ok (.next,lo) s);rw[hv];refine λQ Ex kq=>wpAny_bind (wpAny_bind (FA (use:=some (assign (.Name yn np) env)) (Q:=λzz s'=>wpAny S.M A ((P2 ():Sem Unit)) (λzz s''=>wpAny S.M A (P2 PySem.Flow.next) Q Ex s'') Ex s') hs wj hfl hc hxs ht hts wx p hi hv λfp g' sh' D C cenv lo2 hd x1 x2 x3 x4 x5 x6 x7=>?_));refine nI (o9 (tk:=sh'.toks) (h':=sh'.heap) rfl x1 x2 x3 x4 x5 x6 x7 hd (P0.refl C sh'.heap)) λr1 r2 r3=>?_;have p2:=p.step r1 r2;subst hyn;refine wpAny_bind (wpAny_standAt ((n6 p2 hy (congrArg _ hyk) r3) _ Ex λg3 sh3 zz e3 q3 af3=>?_));refine aa x4.l λm hm zz=>?_;replace hm:=x5▸hm;have outC:C∉(g'.add D).ar:=λmm=>by
    rcases QO.mp mm with mm|mm
    .exact x4.e.qN (x5▸mm)
    .refine aa x2.get λo e1 zz=>?_;have:D≠cenv.locals:=λz=>x3.fx (by simp only[z];exact PJ);exact this (by simp only[x5];exact(PI.mp mm).symm)
   have lowC:S.h0.get? C=none:=x5▸x4.e.jM;have fxC:C∉FX env:=λmm=>by obtain⟨o,e1⟩:=fB p.e _ mm;rw[x7] at e1;exact nomatch e1
   refine ag m (AW e3 hm outC fxC (eW r2 lowC)) (λh' hsb=>wpAny_pure (wpAny_pure ?_));have eT:=(r1.nil (X:=FX env)).trans e3;have hk:∀a o,a∉[C]->sh3.heap.get? a=some o->h'.get? a=some o:=λa o mm q=>(hsb.2 a λe=>mm (by simp only[e];exact Q9 _)).trans q;have outC3:C∉g3.ar:=λmm=>by
    refine QK (eT.c7 C mm) (λz=>?_) λz=>?_
    .obtain⟨i,hi⟩:=PR.mp z;refine aa (p.r.bc i _ hi) λo' zz h2=>?_;refine aa h2.get λob h3 zz=>?_;rw[x7] at h3;exact nomatch h3
    .refine QK (e3.c7 C mm) (λz=>?_) λz=>?_
     .exact outC z
     .refine fY hm λo es ep q1 zz=>?_;rw[q1] at z;exact sn z
   have hns3:=AW e3 hm outC fxC (eW r2 lowC);refine gQ hns3 λo3 es3 ep3 q1 qd zz=>?_;have froC:C∉g3.bH:=λmm=>by refine aa (q3.bH C mm) λo w1 w2=>?_;rw[q1] at w1;obtain rfl:=PD w1;rcases w2 with⟨v,w2⟩|⟨v,w2⟩<;>replace w2:=qd.symm.trans w2<;>cases w2
   obtain⟨eL,rL,upL⟩:=o7 (Z:=[C]) (tk:=sh3.toks) eT q3 (λz hz=>by refine(PI.mp hz).symm▸?_;refine Ia outC3 froC lowC (λo q=>?_);rw[q1] at q;obtain rfl:=PD q;rintro(⟨_,_,_,z⟩|z|⟨_,z⟩)<;>replace z:=qd.symm.trans z<;>cases z) hk (λz hz=>by exact(PI.mp hz)▸x7)
   exact kq g3 {sh3 with heap:=h',toks:=sh3.toks} _ eL rL ⟨.next,af3.Jv upL hk fxC⟩
theorem u7{d:Addr}{ds:Array DictEntry}{nn:Nat}{es:List (V×V)}{k v:V}{key y:Value}{Q:Unit->Shared->Prop}{Ex:Ec}(hu:A.units+8<cLine)(ho:sh.heap.get? d=some {cls:=.type "dict",data:=.dict ds nn})(hes:aC S g sh.heap (es.map (·.1)) ds.toList)
  (hvs:aI S g sh.heap (es.map (·.2)) (ds.toList.map (·.val))) (hn:(es.map (·.1)).Nodup) (hep0:nn=ds.size) (hz:es.length<100000) (hk:aA k=true) (qk:VR S g sh.heap k key) (qv:VR S g sh.heap v y)
  (hq:∀h' tk ds' nn',P0 d sh.heap h'->h'.get? d=some {cls:=.type "dict",data:=.dict ds' nn'}->aC S g sh.heap ((bD es k v).map (·.1)) ds'.toList->aI S g sh.heap ((bD es k v).map (·.2)) (ds'.toList.map (·.val))->((bD es k v).map (·.1)).Nodup->nn'=ds'.size->Q () {sh with heap:=h',toks:=tk}):wpAny S.M A (dictSet d key y) Q Ex sh:=by
 have hlen:es.length=ds.size:=by have:=hes.length;simpa using this
 have dY:∀(f:Obj->Obj) (ds':Array DictEntry) (nn':Nat) tk,f {cls:=.type "dict",data:=.dict ds nn}={cls:=.type "dict",data:=.dict ds' nn'}->nn'=ds'.size->
   aC S g sh.heap ((bD es k v).map (·.1)) ds'.toList->aI S g sh.heap ((bD es k v).map (·.2)) (ds'.toList.map (·.val))->((bD es k v).map (·.1)).Nodup->Q () {sh with heap:=sh.heap.update d f,toks:=tk}:=by
  intro f ds' nn' tk hf hep h1 h2 h3;have:=QL f ho (by refine hf.symm▸?_;rfl);simp only[hf] at this;exact hq _ tk ds' nn' (Qo sh.heap d f) this h1 h2 h3 hep
 unfold dictSet
 try with_reducible refine wpAny_holding ?_
 refine wpAny_bind (hU 8 hu hk qk λt _=>?_);unfold dictSetHashed
 try with_reducible refine wpAny_holding ?_
 refine wpAny_bind (hY (sh:={sh with toks:=t}) (g:=g) hu hk qk ho rfl hes hn (λhm=>?_) (λj hj=>?_))
 .refine wpAny_bind (wpAny_rule (wpAny_updateDictKeys (s:={sh with toks:=t}) ho rfl ?_ (hz:=by simp only[sizeLine_eq];exact r8 hlen hz) (hf:=by simp)));have e:=nU (v:=v) hk (jo hes) hm;refine dY _ (ds.push ⟨hV S.w k,key,y⟩) (nn+1) t rfl (by simp only[hep0,Array.size_push]) ?_ ?_ ?_
  .rw[e];simpa using hes.IY (k:=k) (e:=⟨hV S.w k,key,y⟩) rfl qk hk
  .rw[e];simpa using hvs.dZ (aI.fU qv)
  .rw[e];simp only[QZ,Qe,List.map_nil];exact List.nodup_append.mpr ⟨hn,by simp,λx hx y hy z=>by replace z:=z.trans (PI.mp hy);exact hm (z▸hx)⟩
 .refine aa (PX.mp hj|>.elim λa b=>((ag (es[j]'(by simpa using a)) (by simp) (by simpa using b)):∃p,es[j]?=some p/\p.1=k)) λp hp1 hp2=>?_;have e:=sz (v:=v) hk (jo hes) hn hp1 hp2;have hj':j<es.length:=(PX.mp hp1).1;refine wpAny_bind (wpAny_rule (wpAny_bind (wpAny_updateDict (s:={sh with toks:=t}) ho rfl (wpAny_point ?_) (hz:=by simp))));have hkeys:(bD es k v).map (·.1)=es.map (·.1):=by
   rw[e,List.map_set,hp2];refine List.ext_getElem? λi=>?_;refine(List.getElem?_set).trans ?_;split
   .rename_i hij;subst hij;refine(if_pos (by simpa using hj')).trans ?_;exact hj.symm
   .rfl
  refine dY _ (ds.modify j λe=> {e with val:=y}) nn t rfl (by refine hep0.trans ?_;simp) ?_ ?_ ?_
  .rw[hkeys];simpa using hes.A6 y j
  .have hv:(bD es k v).map (·.2)=(es.map (·.2)).set j v:=by simp only[e,List.map_set]
   rw[hv];have:(ds.modify j λe=> {e with val:=y}).toList.map (·.val)=(ds.toList.map (·.val)).set j y:=by
    refine List.ext_getElem? λi=>?_;simp only[List.getElem?_set,Qt,Qn,Array.getElem?_modify,Qt,Qn];by_cases hij:j=i
    .subst hij;have:j<ds.size:=by exact Gg hj' hlen
     simp[this]
    .simp[hij]
   simp only[this];exact hvs.set qv j
  .simp only[hkeys];exact hn
theorem Ai{k x:Code V}{kx vx:PE}{D:Addr}(wk:aF S true n sc ctx k kx)(w:aF S true n sc ctx x vx):nj S n sc .dict (Nb k x ctx) D (λenv=>eval kx env>>=λkv=>holding [kv] (eval vx env)>>=λvv=>standAt {kx.pos with endLine:=vx.pos.endLine,endCol:=vx.pos.endCol}>>=λzz=>holding [kv,vv] (dictSet D kv vv)):=by
 intro A g s sh lo env fp acc acc' s' p d ho he Q Ex kq;refine a8 (R.cj he) λa s1 h1 h2=>?_;refine a8 (R.cj h2) λv s2 h3 h4=>?_;refine cy (aA a) (λhk=>?_) λhk=>?_
 .replace h4:=hk▸h4;exact kW h4
 .rw[hk] at h4;refine cy (aN (len acc)) (λhz=>?_) λhz=>?_
  .simp only[hz] at h4;exact kW h4
  .rw[hz] at h4;clear h2 he;injection h4 with u v;subst u;induction v;refine wpAny_bind ((wk A g s sh lo env p).use h1 _ Ex λg1 sh1 y1 e1 r1 q1=>?_);have p1:=p.step e1 r1;refine dw (OR.jy (X:=[]) (o:=.dict acc) rfl ho d p.r (λm=>nomatch m) e1) λo1 d1=>?_;refine wpAny_bind (wpAny_holding ((w A g1 s1 sh1 lo env p1).use h3 _ Ex λg2 sh2 y2 e2 r2 q2=>?_));have p2:=p1.step e2 r2;obtain⟨o2,d2⟩:=OR.jy (X:=[]) (o:=.dict acc) rfl o1 d1 p1.r (λm=>nomatch m) e2;refine wpAny_bind (wpAny_standAt (wpAny_holding ?_));refine jA o2 λds nn z1 z2 z3 z4 z5=>?_;refine u7 (by have:=p2.a.units;exact ul this rfl) z1 z2 z3 z4 z5 (bp hz) hk (q1.ext e2) q2 λh' tk ds' nn' sb hnew k1 k2 k3 k4=>?_;have hni:¬sa {cls:=.type "dict",data:=.dict ds nn}:=by
    rintro(⟨z,_⟩|z|⟨_,z⟩)
    .injection z with z;exact absurd z (by decide)
    .cases z
    .cases z
   refine nI (rt (tk:=tk) r2 d2 z1 hni sb hnew) λex zz up=>?_;have p3:=bX.rt (ng (by decide)) p2 (tk:=tk) d2 z1 hni sb hnew (λvs z=>by cases z);exact kq g2 {sh2 with heap:=h',toks:=tk} (((e1.trans e2).nil).trans ex) p3 (jB ds' nn' hnew (k1.up up) (k2.up up) k3 k4)
theorem u9{R:Result->Shared->Prop}{kx vx te ie:PE}{ifsE:List PE}{scope:Scope}{pos:Pos}{a D:Addr}{cenv:PM}(h0:codeAny S.M A (.compLoop (.DictComp kx vx [⟨te,ie,ifsE,0⟩] scope pos) 0 (.ref a) (.ref D) cenv) R sh)
  (hi:∀(Q:Ec) (Ex:Ec),Q (.ref a) sh->wpAny S.M A (pyIter (.ref a)) Q Ex sh):codeAny S.M A (.compStart (.DictComp kx vx [⟨te,ie,ifsE,0⟩] scope pos) 0 (.ref a) (.ref D) cenv) R sh:=
 codeAny_compStart_dict h0 (hi _ _ h0)
theorem G0{k x:Code V}{ci:Code It}{is:List (Code V)}{kx vx te ie:PE}{ifsE:List PE}{xs:List Nat}{scope:Scope}{pos cpos:Pos}{use:Option (Value->Sem Unit)}{A:Around}{g:Gh}{s:St}{sh:Shared}{lo:Lo}{env:PM}{it:It}{s1 sF:St}{vs:List (V×V)}
  (hs:i8 ie=true) (wj:tm S true n sc ctx ci ie) (hfl:∀lo s it s',ci ctx lo s=.ok it s'->it.eB=true) (hc:iA sc scope) (hxs:∀x,x<S.nm.length->scope.names.lookup (S.n x)=some .local->x∈xs) (ht:g8 S scope.names xs te) (hts:gz S true n scope.names ctx is ifsE) (wk:aF S true n scope.names ctx k kx) (wx:aF S true n scope.names ctx x vx)
  (p:bX S true n sc A g s sh lo env) (hi:ci ctx lo s=.ok it s1) (hv:e.gP k x xs (e.ifs is) ctx ctx.n it [] lo s1=.ok vs sF) {Q:Ec} {Ex:Ec}
  (post:∀fp g' sh' D C cenv lo2,(∀z∈fp,sh.heap.get? z=none)->aG S (D::C::fp) g sh.heap g' sh'.heap->OR S g' sh'.heap D (.dict vs)->xn S g' (FX cenv) fp D->bX S true n scope.names A g' sF sh' lo2 cenv->cenv.locals=C->sh.heap.get? D=none->sh.heap.get? C=none->compPost S.M A Ex use Q (.ref D) C (.ok .next) sh'):
  wpAny S.M A (comprehension (.DictComp kx vx [⟨te,ie,ifsE,0⟩] scope pos) scope env cpos newDict false (eval ie env) use) Q Ex sh:=by
 obtain⟨cl,c1,c2,c3⟩:=eI (env:=env) (scope:=scope) λy hy=>by
  rcases hc.all _ hy with h|h|⟨_,h⟩
  .cases h
  .cases h
  .refine dw ((p.sc y).2.2 (congrArg _ h)) λk1 k2=>?_;exact k2 (by simp only[k1,h])
 refine aa (wj A g s sh lo env p) λVP w1 w2=>?_;rw[BL] at hv;refine wpAny_comprehension_free (g:=⟨te,ie,ifsE,0⟩) (gs:=[]) rfl (cH hs env) c1 hc.kind (λy hy hl=>cI hc.nd (show(y.1,NameKind.local)∈scope.names by refine hl▸?_;exact hy)) ?_;refine(w1.use hi) _ _ λg1 sh1 y e1 r1 q1=>?_;refine(w2 it g1 s1 sh1 y hi e1 r1 q1) _ _ λg2 sh2 ity e2 r2 q2=>?_;refine bK q2 λa fp z2 qi wi hd=>?_;refine z2▸?_;have p2:=(p.step e1 r1).step e2 r2;refine o8 (mk:=O.dict) (emit:=λD env=>eval kx env>>=λkv=>holding [kv] (eval vx env)>>=λvv=>standAt {kx.pos with endLine:=vx.pos.endLine,endCol:=vx.pos.endCol}>>=λzz=>holding [kv,vv] (dictSet D kv vv)) (accObj:={cls:=.type "dict",data:=.dict #[]}) (acc0:=[]) (λzz=>rfl) (λD it env R sh h=>Ad it env R sh h) ht hts (λD=>Ai wk wx) p2 (e1.trans e2) qi wi hd (hfl _ _ _ _ hi) hc c2 c3 hxs hv rfl
  (jB (#[]) (0) (PQ _ rfl) .nil aI.nil (by simp) rfl) (λQ hq=>wpAny_newObj_type hq) (λD cenv R sh h0 hi=>u9 h0 hi) λg' sh' D C cenv lo2 x1 x2 x3 x4 x5 x6 x7=>?_
 exact post fp g' sh' D C cenv lo2 hd x1 x2 x3 x4 x5 x6 x7
theorem Ei{k x:Code V}{ci:Code It}{is:List (Code V)}{kx vx te ie:PE}{ifsE:List PE}{xs:List Nat}{scope:Scope}{pos:Pos}
  (hs:i8 ie=true) (wj:tm S true n sc ctx ci ie) (hfl:∀lo s it s',ci ctx lo s=.ok it s'->it.eB=true) (hc:iA sc scope) (hxs:∀x,x<S.nm.length->scope.names.lookup (S.n x)=some .local->x∈xs) (ht:g8 S scope.names xs te) (hts:gz S true n scope.names ctx is ifsE) (wk:aF S true n scope.names ctx k kx) (wx:aF S true n scope.names ctx x vx):
  aF S true n sc ctx (e.lT k x xs ci is) (.DictComp kx vx [⟨te,ie,ifsE,0⟩] scope pos):=λA g s sh lo env p=>by
 refine(?_:W S [] A (VR S) (comprehension (.DictComp kx vx [⟨te,ie,ifsE,0⟩] scope pos) scope env ie.pos newDict false (eval ie env)) g sh ((ci ctx lo s).bind λit s=>(Mp.bb (e.gP k x xs (e.ifs is) ctx ctx.n it [] lo s)).bind λvs s=>.ok (.ar s.n) (s.new (.dict vs))));cases hi:ci ctx lo s with
 |no _=>trivial|ez _ s1=>
  obtain⟨cl,c1,c2,c3⟩:=eI (env:=env) (scope:=scope) λy hy=>by
   rcases hc.all _ hy with h|h|⟨_,h⟩
   .cases h
   .cases h
   .refine dw ((p.sc y).2.2 (congrArg _ h)) λk1 k2=>?_;exact k2 (by simp only[k1,h])
  refine aa (wj A g s sh lo env p) λVP w1 w2=>?_;simp only[hi] at w1;exact λhh Q Ex hq=>wpAny_comprehension_free (g:=⟨te,ie,ifsE,0⟩) (gs:=[]) rfl (cH hs env) c1 hc.kind (λy hy hl=>cI hc.nd (show(y.1,NameKind.local)∈scope.names by refine hl▸?_;exact hy)) (w1 hh _ Ex hq)
 |ok it s1=>
  refine(?_:W S [] A (VR S) _ g sh ((Mp.bb (e.gP k x xs (e.ifs is) ctx ctx.n it [] lo s1)).bind λvs s=>.ok (.ar s.n) (s.new (.dict vs))));cases hv:e.gP k x xs (e.ifs is) ctx ctx.n it [] lo s1 with
  |no _=>trivial|ez _ s2=>trivial|ok vs sF=>refine λQ Ex kq=>G0 hs wj hfl hc hxs ht hts wk wx p hi hv λfp g' sh' D C cenv lo2 hd x1 x2 x3 x4 x5 x6 x7=>?_;refine aa x4.l λm hm zz=>?_;rw[x5] at hm;refine ag m hm (λh' hsb=>?_);refine nI (o9 (tk:=sh'.toks) rfl x1 x2 x3 x4 x5 x6 x7 hd hsb) λr1 r2 r3=>?_;exact kq _ _ _ r1 r2 r3
theorem FunFrames.base{h b b':Heap}:∀ {l:List PM},h.FunFrames b l->(∀L∈l.filterMap (·.frame),b'.get? L=none)->h.FunFrames b' l
 |[],_,_=>trivial|en::l,⟨h1,⟨L,o,h2,h3,h4,h5⟩,h6⟩,q=>j2 h1 (cZ L o h2 (q L (by simp only[RM,h2];exact PJ)) h4 h5) (FunFrames.base h6 λL' m=>q L' (by simp only[RM,h2];exact PL _ m))
theorem eJ{l:List PM}(q:gm S h l){x:Addr}(m:x∈l.filterMap (·.frame)):S.h0.get? x=none/\∃o es n,h.get? x=some o/\o.cls=.type "frame"/\o.data=.dict es n:=by refine aa (List.mem_filterMap.mp m) λen m1 m2=>?_;exact q en m1 x m2
noncomputable def fQ (S:SI) (l:List PM) (k:Nat) (a:Addr) (h0 h:Heap):Prop:=
 ∃a0,(hideAll h0 (a::l.filterMap (·.frame))).StaysIn h/\h.FunFrames (hideAll h0 (a::l.filterMap (·.frame))) l/\h.TracedW (hideAll h0 (a::l.filterMap (·.frame))) a (.type (dh k)) a0/\h0.UpToSlots h
theorem fQ.bq{l:List PM}{k:Nat}{a:Addr}{h0:Heap}(q:fQ S l k a h0 h)(hk:∀b o,h.get? b=some o->h'.get? b=some o):fQ S l k a h0 h':=by refine dQ q λa0 q1 q2 zz0 q4=>?_;obtain⟨oe,vs,T,oT,ts,he,hc,hd,h1,hnT,hTe,hT,hdT,h3⟩:=zz0;exact iH a0 (λb o e=>hk b o (q1 b o e)) (q2.of_keeps λb o e zz=>ag o (hk b o e) rfl) ⟨oe,vs,T,oT,ts,hk _ _ he,hc,hd,h1,hnT,hTe,hk _ _ hT,hdT,h3⟩ (q4.trans (Heap.UpToSlots.of_keeps hk))
theorem fQ.G1{l:List PM}{k:Nat}{a:Addr}{h0:Heap}(q:fQ S l k a h0 sh.heap){Q:Unit->Shared->Prop}{Ex:Ec}(hq:∀h',fQ S l k a h0 h'->Q () {sh with heap:=h'}):wpAny S.M A (setFlight (.ref a) Option.none) Q Ex sh:=by refine dQ q λa0 q1 q2 q3 q4=>?_;exact wpAny_setFlight_noneW q1 q2 q3 λh'' t1 t2 t3 t4=>hq h'' (iH a0 t1 t2 t3 (q4.trans λb o e d=>⟨o.slots,t4 b o e d⟩))
theorem fQ.O8{l:List PM}{k:Nat}{a:Addr}{lo:Lo}{env:PM}(q:fQ S l k a sh.heap h')(p:bX S hN n sc A g s sh lo env)(f1:A.frames=some l){ob:Obj}{vs:Array Value}(k2:a∉g.ar)(k3:S.h0.get? a=none)(k4:sh.heap.get? a=some ob)(k6:ob.data=.fields vs)(Ej:a∉g.bH):
  aG S [a] g sh.heap g h'/\aD S g s {sh with heap:=h'}/\∃o,h'.get? a=some o/\o.cls=.type (dh k):=by
 refine dQ q λa0 t1 t2 t3 slot=>?_;refine aO p.a.fr λl' l1 l2 l3=>?_;rw[f1] at l1;clear l2 t2 q;obtain rfl:=PD l1;have keep1:=λx o e m=>t1 x o (hideAll_get _ e m);have ha:∃o,h'.get? a=some o/\o.cls=.type (dh k):=by refine AM t3 λoe zz zz zz zz q1 zz0 zz=>?_;obtain⟨q2,_⟩:=zz0;exact ag oe q1 q2
 have nimm:∀z∈(a::l.filterMap (·.frame)),∀o,sh.heap.get? z=some o->¬sa o:=λz m o e i=>by
  rcases PU.mp m with rfl|m
  .replace e:=k4.symm.trans e;injection e with e;subst e;rcases i with⟨_,xs,nn,i⟩|i|⟨fd,i⟩<;>replace i:=k6.symm.trans i<;>cases i
  .obtain⟨_,o',es,nn,q1,_,q3⟩:=eJ l3 m;replace e:=q1.symm.trans e;injection e with e;subst e;rcases i with⟨_,xs,nn,i⟩|i|⟨fd,i⟩<;>replace i:=q3.symm.trans i<;>cases i
 have dO:∀z∈(a::l.filterMap (·.frame)),z∉g.bH:=λz m c=>by
  clear t3 t1 k6 k4;rcases PU.mp m with rfl|m
  .exact Ej c
  .obtain⟨_,o',es,nn,q1,_,q3⟩:=eJ l3 m;refine aa (p.r.bH z c) λo h1 h2=>?_;replace h1:=q1.symm.trans h1;injection h1 with h1;subst h1;rcases h2 with⟨v,h2⟩|⟨v,h2⟩<;>replace h2:=q3.symm.trans h2<;>cases h2
 have c7:∀z∈(a::l.filterMap (·.frame)),z∉g.ar:=λz m c=>by
  rcases PU.mp m with rfl|m
  .exact k2 c
  .obtain⟨_,o',es,nn,q1,q2,q3⟩:=eJ l3 m;obtain⟨i,hi⟩:=PR.mp c;refine aa (p.r.bc i z hi) λo2 zz ho'=>?_;refine aa ho'.su λob2 y1 y2=>?_;rw[q1] at y1;injection y1 with y1;subst y1;exact y2 q2
 refine⟨⟨Q2 _,λzz x=>.inl x,λzz x=>x,λzz x=>.inl x,λx o e=>?_,λx o e i=>keep1 x o e λm=>nimm x m o e i,λc o m e=>keep1 c o e λz=>dO c z m,λx o e m1 m2 m3 m4=>?_,λx o e m1 m2 m3=>?_⟩,
  p.r.jw (tk:=sh.toks) keep1 dO c7 nimm λz m=>?_,ha⟩
 .clear c7 dO nimm t3 t1 Ej k6 k4 k2 p;by_cases m:x∈(a::l.filterMap (·.frame))
  .rcases PU.mp m with rfl|m
   .exact⟨_,ha.choose_spec.1⟩
   .obtain⟨_,o',es,nn,q1,_,q3⟩:=eJ l3 m;obtain⟨sl,y⟩:=slot x o' q1 λvs z=>by replace z:=q3.symm.trans z;cases z
    exact⟨_,y⟩
  .exact⟨o,keep1 x o e m⟩
 .refine keep1 x o e λm=>?_;clear c7 dO nimm ha t3 t1 Ej k6 k4 k2 p;rcases PU.mp m with rfl|m
  .exact m2 PJ
  .obtain⟨_,o',es,nn,q1,q2,q3⟩:=eJ l3 m;rw[q1] at e;injection e with e;subst e;exact m4 q2
 .clear c7 dO nimm ha t3 t1 Ej k6 k4 k2 p;by_cases m:x∈(a::l.filterMap (·.frame))
  .rcases PU.mp m with rfl|m
   .exact absurd PJ m2
   .obtain⟨_,o',es,nn,q1,_,q3⟩:=eJ l3 m;rw[q1] at e;obtain rfl:=PD e;exact slot x _ q1 λvs z=>by rw[q3] at z;cases z
  .exact⟨o.slots,keep1 x o e m⟩
 .clear c7 dO nimm ha keep1 t3 t1 Ej k6 k4 k2 p;rcases PU.mp m with rfl|m
  .exact k3
  .exact(eJ l3 m).1
theorem BQ{lo:Lo}{env:PM}{k:Nat}{a:Addr}{ob:Obj}{vs:Array Value}{a0:Value}(p:bX S true n sc A g s sh lo env){l:List PM}(hf:A.frames=some l)
  (k4:sh.heap.get? a=some ob) (k5:ob.cls=.type (dh k)) (k6:ob.data=.fields vs) (k7:vs[1]?=some .none) (k8:vs[0]?=some a0) {Q:Unit->Shared->Prop} {Ex:Ec}
  (hq:∀h',fQ S l k a sh.heap h'->Q () {sh with heap:=h'}):
  wpAny S.M A (noteFrame (.ref a) env) (λzz s₂=>wpAny S.M A (setFlight (.ref a) Option.none) Q Ex s₂) Ex sh:=by
 obtain⟨en,outer,f1,f2,L,f3⟩:=p.gu;refine aO p.a.fr λl' l1 l2 l3=>?_;replace l1:=hf.symm.trans l1;clear l3 p lo;obtain rfl:=PD l1;replace f1:=hf.symm.trans f1;clear l1;obtain rfl:=PD f1;have hkb:(hideAll sh.heap (a::(en::outer).filterMap (·.frame))).StaysIn sh.heap:=λb o e=>of_hideAll _ e;have hen:(hideAll sh.heap (a::(en::outer).filterMap (·.frame))).get? a=Option.none:=hideAll_none _ PJ;have hl:=FunFrames.base (b':=hideAll sh.heap (a::(en::outer).filterMap (·.frame))) l2 λL m=>hideAll_none _ (PL _ m);unfold noteFrame;rw[f3];have hfo:PySem.frameOf env=PySem.frameOf en:=by unfold PySem.frameOf;rw[f2]
 refine hfo.symm▸?_;refine wpAny_bind (wpAny_field k4 k6 k7 ?_);refine wpAny_entryW hf hl (f2.trans f3) k4 hkb hen k6 (QV.mp k7).1 k8 λh' N=>?_;refine wpAny_setFlight_noneW N.1 N.2.1 N.2.2.1 λh'' t1 t2 t3 t4=>?_;rw[k5] at t3;exact hq h'' ⟨a0,t1,t2,t3,λx o e d=>by refine PW (N.2.2.2 x o e d) λsl q=>?_;exact⟨sl,t4 x _ q d⟩⟩
theorem BS:isSubtype (.type "type") (.type "tuple")=pure false:=by rw[isSubtype_type];kernel_rfl
theorem G2:isSubtype (.type "tuple") (.type "tuple")=pure true:=by rw[isSubtype_type];kernel_rfl
theorem yF:((Manifest.find? "KeyError").elim "type" λx=>x.metatype)="type":=by kernel_rfl
theorem yG:((Manifest.find? "IndexError").elim "type" λx=>x.metatype)="type":=by kernel_rfl
theorem BU:isSubtype (.type "KeyError") (.type "BaseException")=pure true:=by rw[isSubtype_type];kernel_rfl
theorem BV:isSubtype (.type "IndexError") (.type "BaseException")=pure true:=by rw[isSubtype_type];kernel_rfl
theorem BW:isSubtype (.type "KeyError") (.type "KeyError")=pure true:=by rw[isSubtype_type];kernel_rfl
theorem BX:isSubtype (.type "IndexError") (.type "IndexError")=pure true:=by rw[isSubtype_type];kernel_rfl
theorem G3:isSubtype (.type "KeyError") (.type "IndexError")=pure false:=by rw[isSubtype_type];kernel_rfl
theorem yH{T:String}{Q:Bool->Shared->Prop}{Ex:Ec}(hT:T="KeyError"\/T="IndexError")(h:Q true sh):wpAny S.M A (isExcClass (.type T)) Q Ex sh:=by
 obtain⟨hp,gn,d,tk,os⟩:=sh;rcases hT with rfl|rfl
 .have h1:=BU;have h2:=yF;unfold isExcClass
  wp_walk
  exact h
 .have h1:=BV;have h2:=yG;unfold isExcClass
  wp_walk
  exact h
theorem Ek{j:Nat}{e t:Addr}{Q:Bool->Shared->Prop}{Ex:Ec}(hj:j=1\/j=2)(ht:sh.TypeIs (.ref e) (dh j))(htu:sh.heap.get? t=some {cls:=.type "tuple",data:=.seq [.type "IndexError",.type "KeyError"].toArray})(h:Q true sh):
  wpAny S.M A (excMatches (.ref e) (.ref t)) Q Ex sh:=by
 have hT:sh.TypeIs (.ref t) "tuple":=ag _ htu rfl;refine wpAny_bind (wpAny_isInstance hT G2 ?_);clear hT;refine(if_pos rfl).symm▸?_
 first
  |refine wpAny_bind (wpAny_seqItems htu rfl ?_)|refine wpAny_bind (wpAny_bind (wpAny_seqItems htu rfl (wpAny_pure ?_)))
 have hKK:=BW;have hII:=BX;have hKI:=G3;clear htu t;obtain⟨hp,gn,d,tk,os⟩:=sh;refine wpAny_bind (wpAny_pure ?_);refine wpAny_bind (wpAny_bind (wpAny_bind (yH (.inr rfl) ?_)));refine wpAny_pure (wpAny_bind (wpAny_bind (yH (.inl rfl) ?_)));refine wpAny_pure (wpAny_pure ?_);refine wpAny_bind (wpAny_typeOf ht ?_);clear ht e;rcases hj with rfl|rfl
 .refine wpAny_bind (wpAny_bind (wpAny_bind (wpAny_of_eq hKI ?_)));refine wpAny_pure (wpAny_bind (wpAny_bind (wpAny_of_eq hKK ?_)));refine(if_pos rfl).symm▸?_;exact wpAny_pure (wpAny_pure (wpAny_pure h))
 .refine wpAny_bind (wpAny_bind (wpAny_bind (wpAny_of_eq hII ?_)));exact(if_pos rfl)▸wpAny_pure (wpAny_pure (wpAny_pure h))
inductive je (S:SI) (sc:Sc):List Nat->PE->Prop
 |fU {k:Nat} {y:Str} {pos:Pos}:k=1\/k=2->sc.lookup y=some .globalImplicit->S.cQ y=some (.type (dh k))->(y==("__debug__":Str))=false->je S sc [k] (.Name y pos)|wY {y z:Str} {py pz pos:Pos} {m:Nat}:sc.lookup y=some .globalImplicit->S.cQ y=some (.type "IndexError")->(y==("__debug__":Str))=false->sc.lookup z=some .globalImplicit->S.cQ z=some (.type "KeyError")->(z==("__debug__":Str))=false->
   je S sc [2,1] (.Tuple [.Name y py,.Name z pz] m pos)
theorem El{k j:Nat}{e:Addr}{Q:Bool->Shared->Prop}{Ex:Ec}(hk:k=1\/k=2)(ht:sh.TypeIs (.ref e) (dh j))(he:P8 j k=true)(h:Q true sh):wpAny S.M A (excMatches (.ref e) (.type (dh k))) Q Ex sh:=by
 obtain rfl:=Q8 he;clear he;rcases hk with rfl|rfl
 .exact wpAny_excMatches_type ht BU (by refine(?_:isSubtype (.type ((Manifest.find? "KeyError").elim "type" λx=>x.metatype)) _=_);rw[yF];exact BS) BW h
 .exact wpAny_excMatches_type ht BV (by refine(?_:isSubtype (.type ((Manifest.find? "IndexError").elim "type" λx=>x.metatype)) _=_);rw[yG];exact BS) BX h
theorem xw{ks:List Nat}{te:PE}{k:Nat}{a:Addr}{lo:Lo}{env:PM}{Q:Bool->Shared->Prop}{Ex Ex':Ec}(hc:je S sc ks te)(p:bX S hN n sc A g s sh lo env)(hk:ks.any (P8 k)=true)(ht:sh.TypeIs (.ref a) (dh k))
  (hq:∀h',(∀b o,sh.heap.get? b=some o->h'.get? b=some o)->Q true {sh with heap:=h'}):
  wpAny S.M A (eval te env) (λc s₁=>wpAny S.M A (excMatches (.ref a) c) Q Ex s₁) Ex' sh:=by
 induction hc with
 |fU h1 h2 h3 h4=>refine dm p h2 h3 h4 (El h1 ht ?_ (hq _ λzz zz x=>x));simpa using hk
 |wY h1 h2 h3 h4 h5 h6=>
  refine(?_:wpAny S.M A (standAt _>>=λzz=>spliced [(false,eval (.Name _ _) env),(false,eval (.Name _ _) env)]>>=λvs=>PySem.newTuple vs) _ _ sh);refine wpAny_bind (wpAny_standAt (wpAny_bind (Calls.spliced_cons (dm p h1 h2 h3 (Calls.spliced_cons (dm p h4 h5 h6 (Calls.spliced_nil ?_)))))));refine wpAny_newTuple ?_;have ex:=Ek (S:=S) (A:=A) (Ex:=Ex) (Q:=Q) (sh:={sh with heap:=sh.heap.push {cls:=.type "tuple",data:=.seq [Value.type "IndexError",Value.type "KeyError"].toArray}}) (j:=k) (e:=a) (t:=sh.heap.objs.size);refine ex ?_ ?_ (PQ _ rfl) (hq _ λzz zz x=>PO _ x)
  .simp only[List.any_cons,List.any_nil,Bool.or_false,Bool.or_eq_true] at hk;rcases hk with q|q
   .exact .inr (Q8 q)
   .exact .inl (Q8 q)
  .refine PW ht λo hz0=>?_;exact ag o (PO _ hz0.1) hz0.2
theorem Jw{c:SC}{st:Stmt}(w:iN S hN n sc ctx c st){lo:Lo}{env:PM}(p:bX S hN n sc A g s sh lo env):W S [] A (VS S env) (execs [st] env) g sh (block [c] ctx lo s):=by
 refine W.bind (w A g s sh lo env p) λb s1 g1 sh1 a zz e1 r1 q=>?_;obtain⟨f,lo1⟩:=b;obtain⟨q1,q2⟩:=q;cases q1 with
 |next=>exact W.pure r1 ⟨.next,q2⟩|brk=>exact W.pure r1 ⟨.brk,q2⟩|cont=>exact W.pure r1 ⟨.cont,q2⟩|ret v=>exact W.pure r1 ⟨.ret v,q2⟩
theorem bX.mark{lo:Lo}{env:PM}{h:Option Value}(p:bX S hN n sc A g s sh lo env):bX S false n sc (A.mark h) g s sh lo env:=
 ⟨⟨p.a.depth,p.a.units,λq=>(ft q),p.a.gd,p.a.fr⟩,p.gu,p.vW,p.DM,p.sc,p.e,p.r,p.l⟩
theorem Jx{c h:SC}{ks:List Nat}{st b₀:Stmt}{suite:List Stmt}{te:PE}{pos pos':Pos}(hc:je S sc ks te)(wb:iN S true n sc ctx c st)(wh:iM S false n sc ctx h (b₀::suite)):
  fe S true n sc ctx (Mp.s.pX (block [c]) ks h) (.Try [st] [.ExceptHandler (some te) Option.none (b₀::suite) pos'] [] [] pos):=λA g s sh lo env p=>by
 have w:=Jw wb p;unfold Mp.s.pX;cases hb:block [c] ctx lo s with
 |no k=>trivial|ok r s1=>
  replace w:=hb▸w;refine λQ Ex hq=>wpAny_Try_except (w _ _ λg' sh' a e1 r1 v1=>?_);have hq':=hq g' sh' a e1.nil r1 v1;clear v1;induction a with
  |next=>exact wpAny_pure hq'|brk=>exact hq'|cont=>exact hq'|ret v=>exact hq'
 |ez k s1=>
  replace w:=hb▸w;dsimp only;cases hk:ks.any (P8 k) with
  |false=>trivial|true=>
   refine W.Bm λr s2 hr=>?_;refine λQ Ex hq=>wpAny_Try_except (w (p.a.hd rfl) _ _ λg1 sh1 e e1 r1 q1=>?_);obtain⟨a,ob,vs,rfl,k2,k3,k4,k5,k6,k7,⟨a0,k8⟩,k9,Ej⟩:=q1;have p1:=p.step e1 r1;refine aa p.a.fr λl l1 zz=>?_;have done:∀h',fQ S l k a sh1.heap h'->aG S [] g sh.heap g1 h'/\aD S g1 s1 {sh1 with heap:=h'}/\∃o,h'.get? a=some o/\o.cls=.type (dh k):=λh' q=>by have hz0:=(q.O8 p1 l1 k2 k3 k4 k6 Ej);exact j2 ((e1.nil.trans hz0.1).eg λx m=>.inr (by refine(PI.mp m).symm▸?_;exact k9)) hz0.2.1 hz0.2.2
   refine BQ p1 l1 k4 k5 k6 k7 k8 λh1 q1=>?_;refine nI (done h1 q1) λx1 y1 z1=>?_;have p2:bX S true n sc A g1 s1 {sh1 with heap:=h1} lo env:=p.step (sh':={sh1 with heap:=h1}) x1 y1;refine wpAny_handleBy_cons (codeAny_handlers_test (xw hc (p2.mark (h:=some (.ref a))) hk z1 λh2 hk2=>?_)) (by intro q;cases q);have q2:=q1.bq hk2;refine codeAny_handlers_suite (fQ.G1 (sh:={sh1 with heap:=h2}) q2 λh3 q3=>?_);refine nI (done h3 q3) λx3 y3 zz=>?_;have p3:bX S true n sc A g1 s1 {sh1 with heap:=h3} lo env:=p.step (sh':={sh1 with heap:=h3}) x3 y3;have wh':=wh _ _ _ _ _ _ (p3.mark (h:=some (.ref a)));simp only[hr] at wh';exact wh' _ _ λg' sh' f e' r' v'=>hq g' sh' f (x3.nil.trans e') r' v'
theorem W.G4{α' β':Type}{V2:Gh->Heap->β'->α'->Prop}{t:Sem α}{f:α->Sem α'}{t':Sem α'}{r:R β}{k:β->St->R β'}(w:W S [] A V1 t g sh r)
  (rule:∀(Q:α'->Shared->Prop) (Ex:Ec),wpAny S.M A t (λa s'=>(∃g1 s1,aG S [] g sh.heap g1 s'.heap/\aD S g1 s1 s')/\wpAny S.M A (f a) Q Ex s') Ex sh->wpAny S.M A t' Q Ex sh)
  (c:∀b s1 g1 sh1 a,r=.ok b s1->aG S [] g sh.heap g1 sh1.heap->aD S g1 s1 sh1->V1 g1 sh1.heap b a->W S X A V2 (f a) g1 sh1 (k b s1)):W S X A V2 t' g sh (r.bind k):=by
 induction r with
 |no n=>trivial|ez n s'=>exact λhh Q Ex hq=>rule Q Ex (w hh _ Ex λg' sh' e h1 h2 h3=>hq g' sh' e h1.nil h2 h3)|ok b s1=>
  refine(?_:W S X A V2 t' g sh (k b s1));have c':=λg1 sh1 a=>c b s1 g1 sh1 a rfl;revert c';cases k b s1 with
  |no n=>intro _;trivial|ez n s2=>intro c' hh Q Ex hq;exact rule Q Ex (w _ Ex λg1 sh1 a e1 r1 v1=>⟨(bW g1 s1 e1 r1),c' g1 sh1 a e1 r1 v1 hh Q Ex λg2 sh2 e e2 r2 v2=>hq g2 sh2 e (e1.nil.trans e2) r2 (v2.sr λzz z=>e1.dG z)⟩)|ok b2 s2=>intro c' Q Ex hq;exact rule Q Ex (w _ Ex λg1 sh1 a e1 r1 v1=>⟨(bW g1 s1 e1 r1),c' g1 sh1 a e1 r1 v1 Q Ex λg2 sh2 a2 e2 r2 v2=>hq g2 sh2 a2 (e1.nil.trans e2) r2 v2⟩)
set_option tactic.hygienic true in
theorem Em{P:G}{fns:List Addr}{x:Nat}{y:Str}{np pos:Pos}{cs:List (Code V)}{pes:List PE}(hF:iy S fns n ctx.call)(hO:cR ctx.call)(hP:P.nC=S.r9)
  (hy:y=S.n x) (hv:fL (sc.lookup y)=true) (hd:(y==("__debug__":Str))=false) (hc:(y==("__classdict__":Str))=false) (q:bM S true n sc ctx cs pes):aF S true n sc ctx (e.j6 P x cs) (.Call (.Name y np) pes [] pos):=λA g s sh lo env p=>by
 have w0:=Fu (ctx:=ctx) (pos:=np) hy hv hd hc A g s sh lo env p;unfold e.j6;unfold e.vr at w0;cases hl:ao lo x with
 |none=>trivial|some v=>
  replace w0:=hl▸w0;clear hl hy;cases v<;>try trivial
  rename_i k du;have w1:W S [] A (VR S) (eval (.Name y np) env) g sh (.ok (.qE k du) s):=w0;refine(?_:W S [] A (VR S) (eval (.Name y np) env>>=λfv=>callWith pos fv [] (backTo pos (starEach pes env)) (backToKw pos (keywordEach [] env))) g sh _);rw[aY q];refine W.bind (r:=R.ok (V.qE k du) s) (k:=λ_ s=>(gO cs ctx lo s).bind λvs s=>match aZ P.nC k with
   |some f=>ctx.call f (dZ du vs) s|.none=>.no 115) w1 λb s1 g1 sh1 fv hb e1 r1 q1=>?_
  injection hb with hb;subst hb;have q1':=q1;refine Fj q1' λa oc od fd osl ws z6 hat _=>?_;clear q1' w1 w0 hc hd hv;obtain rfl:=z6;refine W.G4 (f:=λys=>P6 (.ref a) ys) (eQ q (p.step e1 r1)) (λQ Ex h=>?_) λvs s2 g2 sh2 ys _ e2 r2 q2=>?_
  .refine Calls.callWith_function (o:=⟨oc,od,.func fd,osl⟩) (fd:=fd) (bJ q (wpAny_mono h (λvs s' h'=>?_) λ_ _ e=>e));obtain⟨zz0,h'⟩:=h';refine a8 zz0 λg3 s3 e3 r3=>?_;exact⟨⟨e3.pZ _ _ hat (.inr (.inr ⟨fd,rfl⟩)),rfl⟩,h'⟩
  .cases hk:aZ P.nC k with
   |none=>trivial|some f=>rw[hP] at hk;exact CF.w (hO f _ s2) (hF.1 k f hk A g2 s2 sh2 du vs a ys (((p.step e1 r1).step e2 r2).a.c) r2 (q1.ext e2) q2)
structure pf (S:SI) (mk:Str) (c P:Addr) (q:Str):Prop where
 D2:S.cS mk=some (c,q)
 hd:CodeHd S.h0 c P
 cT:c∉S.c9
 fC:P∈S.c9
 qual:S.wg P=q++"<lambda>"
 bi:S.h0.BuiltinsAt S.mg P
 bT:∀bm,S.mg "__builtins__"=some (.ref bm)->bm∉S.c9
theorem qp{pos pos':Pos}{c x:Value}(l:List Value)(h:TriplesOk l)(hx:codeAmong pos (l++[rawInt pos'.line,rawInt pos'.col,c])=some x):codeAmong pos l=some x\/x=c:=by
 fun_induction TriplesOk l with
 |case1=>
  dsimp only[List.nil_append,codeAmong,rawInt] at hx;split at hx
  .exact(PD hx)▸ .inr rfl
  .exact ns hx
 |case2 a t b u y rest ih=>
  dsimp only[List.cons_append,codeAmong] at hx⊢;split at hx
  .rename_i hq;rw[if_pos hq];exact .inl hx
  .rename_i hq;rw[if_neg hq];exact ih h hx
 |case3=>exact h.elim
theorem yI{lo:Lo}{env:PM}{cl:List (Str×Addr)}(p:bX S hN n sc A g s sh lo env):∀ {xs:List Nat} {vs:List V},Mp.e.iS lo xs=some vs->(∀x∈xs,S.n x∈S.fz/\sc.lookup (S.n x)=some .free/\∀c,env.cells.lookup (S.n x)=some c->cl.lookup (S.n x)=some c)->
  ∃ws,cK S g sh.heap cl xs ws/\aI S g sh.heap vs ws
 |[],vs,hv,_=>by exact(PD hv)▸(ag ([]) trivial aI.nil)
 |x::xs,vs,hv,hx=>by
  change (match ao lo x with|some v=>(match Mp.e.iS lo xs with|some r=>some (v::r)|.none=>.none)|.none=>.none)=_ at hv;refine cJ (ao lo x) (λhl=>?_) λv hl=>?_
  .replace hv:=hl▸hv;exact ns hv
  .replace hv:=hl▸hv;dsimp only at hv;refine cJ (Mp.e.iS lo xs) (λhr=>?_) λr hr=>?_
   .simp only[hr] at hv;exact ns hv
   .rw[hr] at hv;refine(PD hv)▸?_;refine aa (yI p hr λy m=>hx y (PL _ m)) λws i1 i2=>?_;refine nI (hx x PJ) λx1 x2 x3=>?_;refine aa p.l λm zz h2=>?_;have hv:=(h2 x v hl).2;have hk:fL (env.kindOf (S.n x))=true:=by rw[(p.sc (S.n x)).1,x2];rfl
    have hnl:=p.vW.LW _ x2;have:∃c w,env.cells.lookup (S.n x)=some c/\sh.heap.IsCell c (some w)/\VR S g sh.heap v w:=by
     refine cJ (env.kindOf (S.n x)) (λhq=>?_) λkd hq=>?_
     .rw[hq] at hk;exact ft hk
     .rw[hq] at hv hk hnl;clear hq;induction kd<;>first|exact absurd rfl hnl|cases hk|skip
      .exact hv
      .exact hv
    refine aw this λc w c1 c2 c3=>?_;exact ag (w::ws) ⟨(bk c (x3 c c1) (p.vW.pU _ _ x1 c1) c2),i1⟩ (aI.cons c3 i2)
theorem aD.G5{P c':Addr}{pos:Pos}{ps:Array Value}{tk:Nat}(r:aD S g s sh)(hP:P∈S.c9)(hp:sh.heap.get? P=some {cls:=.none,data:=.fields ps})(ht:TriplesOk ps.toList)(hx:Heap.ExtBut P sh.heap h')(hc:sh.heap.get? c'=none)(hrec:h'.CodeRec (.ref c') (S.wg P))
  (hn:h'.get? P=some {cls:=.none,data:=.fields (ps++ #[rawInt pos.line,rawInt pos.col,.ref c'])}):
  aG S [] g sh.heap (g.pU [c']) h'/\aD S (g.pU [c']) s {sh with heap:=h',toks:=tk}:=by
 have hP0:=r.ok.c9 P hP;have dO:P∉g.bH:=λm=>by obtain⟨o,q⟩:=hP0;rw[r.jN P m] at q;exact nomatch q
 have c7:P∉g.ar:=λm=>by obtain⟨o,q⟩:=hP0;rw[r.jM P m] at q;exact nomatch q
 have keep:∀x o,x≠P->sh.heap.get? x=some o->h'.get? x=some o:=λx o n q=>hx x o n q;have pZ:∀a o,sh.heap.get? a=some o->sa o->h'.get? a=some o:=λa o q i=>keep a o (λe=>by cases e;rw[hp] at q;injection q with q;subst q;rcases i with⟨z,_⟩|z|⟨_,z⟩<;>cases z) q
 have up:Up g sh.heap (g.pU [c']) h':=⟨Q2 _,λzz x=>QW _ x,pZ,λc o m q=>keep c o (λe=>dO (e▸m)) q⟩;have e0:aG S [] g sh.heap g h':=⟨Q2 _,λzz x=>.inl x,λzz x=>x,λzz x=>.inl x,λa o q=>(by
   by_cases e:a=P
   .exact e▸⟨_,hn⟩
   .exact⟨o,keep a o e q⟩),pZ,λc o m q=>keep c o (λe=>dO (e▸m)) q,λa o q n1 n2 n3 n4=>keep a o (λe=>n3 (e▸hP)) q,λa o q n1 n2 n3=>⟨o.slots,keep a o (λe=>n3 (e▸hP)) q⟩⟩
 refine⟨e0.pU λz m=>(by refine(PI.mp m).symm▸?_;exact hc),?_⟩;refine ye (id hrec) λcc oc vs t e1 e2 e3 e4=>?_;clear e4 hP0;obtain rfl:=Qq e1;exact {
  ok:=r.ok
  len:=r.len
  nd:=r.nd
  bc:=λi b q=>by refine aa (r.bc i b q) λo' h1 h2=>?_;exact ag o' h1 (h2.up up λob q'=>keep b ob (λe=>c7 (e▸P7 q)) q')
  so:=r.so
  bH:=λc m=>by
   rcases QO.mp m with m|m
   .refine aa (r.bH c m) λo h1 h2=>?_;exact ag o (keep c o (λe=>dO (e▸m)) h1) h2
   .refine(PI.mp m).symm▸?_;exact ag oc e2 (.inr ⟨vs,e3⟩)
  base:=λa o q n=>keep a o (λe=>n (e▸hP)) (r.base a o q n)
  jM:=r.jM
  jN:=λa m=>by
   refine QK (QO.mp m) (λm=>?_) λm=>?_
   .exact r.jN a m
   .exact(PI.mp m)▸r.fresh hc
  fC:=λb m=>by
   by_cases e:b=P
   .subst e;refine cZ _ _ hn rfl ?_ (λpos' x hx=>?_)
    .have:(ps++ #[rawInt pos.line,rawInt pos.col,.ref c']).toList=ps.toList++[rawInt pos.line,rawInt pos.col,.ref c']:=by simp
     simp only[this];exact TriplesOk_snoc _ _ _ _ ht
    .have:(ps++ #[rawInt pos.line,rawInt pos.col,.ref c']).toList=ps.toList++[rawInt pos.line,rawInt pos.col,.ref c']:=by simp
     replace hx:=this▸hx;rcases qp _ ht hx with hx|rfl
     .refine bK (r.fC b m) λop ps' t1 t2 t3 t4=>?_;rw[hp] at t1;obtain rfl:=PD t1;cases t2;obtain⟨cc,k1,k2,c3,o3,vs3,t3',k3,k4,k5⟩:=t4 pos' x hx;subst k1;obtain rfl:=Qq k3;exact⟨cc,rfl,QW _ k2,cc,o3,vs3,t3',rfl,keep _ _ (λe=>dO (e▸k2)) k4,k5⟩
     .exact bk c' rfl (Rj _ PJ) hrec
   .obtain⟨op,ps',t1,t2,t3,t4⟩:=(r.fC b m).keep (h':=h') λx o hx q=>keep x o (by
     clear m e2 e1 e3 up hn hrec hc ht hp;rcases hx with rfl|hx
     .exact e
     .exact λz=>dO (z▸hx)) q
    exact cZ op ps' t1 t2 t3 (λpos c q=>aO (t4 pos c q) λcc k1 k2 k3=>bk cc k1 (QW _ k2) k3)
  gens:=r.gens
  drawn:=r.drawn
  os:=r.os}
theorem Jy{k:Nat}{xs:List Nat}{params:Arguments}{body:PE}{scope:Scope}{pos:Pos}{mk:Str}{c P:Addr}{q:Str}(hd:∀env,defaultsOf params env=([],[]))(hmk:sc.lookup mk=some .globalExplicit)(le:pf S mk c P q)
  (hcaps:S.iW k=xs) (hx:∀x∈xs,S.n x∈S.fz/\sc.lookup (S.n x)=some .free/\(S.n x,Qj)∈scope.names) (hf:∀y,(y,Qj)∈scope.names->y∈xs.map S.n) (nd:(scope.names.map (·.1)).Nodup)
  (hlam:∀clos pm cv ctv,(∀x c,clos.lookup x=some c->scope.names.lookup x=some .free)->S.kS k (kla_fn "<lambda>" (q++"<lambda>") params body scope clos pm cv ctv)):aF S hN n sc ctx (e.kS k xs) (.Lambda params body scope pos):=λA g s sh lo env p=>by
 unfold e.kS;cases hv:Mp.e.iS lo xs with
 |none=>trivial|some vs=>
  dsimp only;refine dw (p.vW.IS _ _ _ hmk le.D2) λhcode hqual=>?_;have hasc:∀x,(x,Qj)∈scope.names->∃c,env.cells.lookup x=some c:=λx m=>by
   refine aa (QB.mp (hf x m)) λz hz z2=>?_;refine z2▸?_;refine nI (hx z hz) λx1 x2 x3=>?_;have:∀ {xs:List Nat} {vs:List V},Mp.e.iS lo xs=some vs->z∈xs->∃v,ao lo z=some v:=by
    intro xs;induction xs with
    |nil=>intro vs _ m;cases m
    |cons w xs ih=>
     intro vs hv m;change (match ao lo w with|some v=>(match Mp.e.iS lo xs with|some r=>some (v::r)|.none=>.none)|.none=>.none)=_ at hv;cases hl:ao lo w with
     |none=>replace hv:=hl▸hv;exact ns hv|some v=>
      rw[hl] at hv;dsimp only at hv;cases hr:Mp.e.iS lo xs with
      |none=>simp only[hr] at hv;exact ns hv|some r=>
       rcases PU.mp m with e|m
       .exact e▸⟨v,hl⟩
       .exact ih hr m
   obtain⟨v,hl⟩:=this hv hz;refine aa p.l λm zz h2=>?_;have hv:=(h2 z v hl).2;have hk:fL (env.kindOf (S.n z))=true:=by rw[(p.sc (S.n z)).1,x2];rfl
   have hnl:=p.vW.LW _ x2;cases hq:env.kindOf (S.n z) with
   |none=>rw[hq] at hk;exact ft hk|some kd=>
    rw[hq] at hv hk hnl;induction kd<;>first|exact absurd rfl hnl|cases hk|skip
    .obtain⟨c,_,c1,_⟩:=hv;exact⟨c,c1⟩
    .obtain⟨c,_,c1,_⟩:=hv;exact⟨c,c1⟩
  refine aO (eI hasc) λcl hcl cl1 cl2=>?_;have clk:∀x c,cl.lookup x=some c->scope.names.lookup x=some .free:=λx c m=>cI nd (cl1 _ (QM m)).2;obtain⟨ws,w1,w2⟩:=yI (cl:=cl) p hv λx m=>by refine nI (hx x m) λx1 x2 x3=>?_;refine j2 x1 x2 (λc hc=>?_);obtain⟨c',hc'⟩:=jJ (cl2 _ x3);have:=(cl1 _ (QM hc')).1;rw[hc] at this;exact(PD this)▸hc'
  have inj:∀x y c,cl.lookup x=some c->cl.lookup y=some c->x=y:=λx y c hx hy=>p.e.inj x y c (cl1 _ (QM hx)).1 (cl1 _ (QM hy)).1;have cells:∀z∈cl.map (·.2),z∈g.bH/\∃v,sh.heap.IsCell z v:=λz m=>by refine aa (QB.mp m) λzz0 hm z2=>?_;refine z2▸?_;clear z2;obtain⟨y,z⟩:=zz0;refine dw (cl1 _ hm) λk1 k2=>?_;refine aa (QB.mp (hf _ k2)) λx hx' e=>?_;replace k1:=e.symm▸k1;exact⟨p.vW.pU _ _ (hx x hx').1 k1,(p.e.cells z (aQ k1)).2.2⟩
  have bi:sh.heap.BuiltinsAt S.mg P:=by refine AJ le.bi λbm o b1 b2 b3 b4 b5 b6=>?_;exact IE bm o b1 b2 b3 b4 (p.r.base _ _ b5 (le.bT bm b1)) b6
  have hC:CodeHd sh.heap c P:=by obtain⟨o,vs,file,tf,flags,tg,inF,text,tt,e,r⟩:=le.hd;exact⟨o,vs,file,tf,flags,tg,inF,text,tt,p.r.base _ _ e le.cT,r⟩
  refine bK (p.r.fC P le.fC) λop ps t1 t2 t3 t4=>?_;subst t2;have hGP:mainGlobals≠P:=λe=>p.r.ok.gT (e▸le.fC);have made:∀(g1:Gh) (h1:Heap) (cc:Addr) (pm ctv:Value) (tk:Nat),aG S [] g sh.heap g1 h1->aD S g1 s {sh with heap:=h1,toks:=tk}->cc∈g1.bH->h1.CodeRec (.ref cc) (q++"<lambda>")->
    aG S [] g sh.heap g1 (h1.push {cls:=.type "function",data:=.func (kla_fn "<lambda>" (q++"<lambda>") params body scope cl pm (.ref cc) ctv)})/\aD S g1 s {sh with heap:=h1.push {cls:=.type "function",data:=.func (kla_fn "<lambda>" (q++"<lambda>") params body scope cl pm (.ref cc) ctv)},toks:=tk}/\
    VR S g1 (h1.push {cls:=.type "function",data:=.func (kla_fn "<lambda>" (q++"<lambda>") params body scope cl pm (.ref cc) ctv)}) (.qE k vs) (.ref h1.objs.size):=λg1 h1 cc pm ctv tk e1 r1 hcc hrec=>by
   have kp:∀b o,h1.get? b=some o->(h1.push {cls:=.type "function",data:=.func (kla_fn "<lambda>" (q++"<lambda>") params body scope cl pm (.ref cc) ctv)}).get? b=some o:=λb o x=>PO _ x;have e2:aG S [] g sh.heap g1 (h1.push {cls:=.type "function",data:=.func (kla_fn "<lambda>" (q++"<lambda>") params body scope cl pm (.ref cc) ctv)}):=e1.trans (aG.bq kp);refine j2 e2 (r1.bq (sh:={sh with heap:=h1,toks:=tk}) kp) ?_;refine⟨_,_,_,_,_,ws,rfl,PQ _ rfl,hlam cl pm _ ctv clk,?_,aI.ext e2 w2,(bk cc rfl hcc (hrec.keeps kp)),inj,λz m=>?_⟩
   .exact hcaps▸e2.up.cells w1
   .obtain⟨k1,v,o,k2,k3⟩:=cells z m;exact⟨e2.bH _ k1,v,o,e2.cell _ _ k1 k2,k3⟩
  refine λQ Ex hq=>kla_eval (hd env) ?_;refine hqual.symm▸?_;cases hca:codeAmong pos ps.toList with
  |some cv=>refine aO (t4 pos cv hca) λcc z1 k1 k2=>?_;obtain rfl:=z1;simp only[le.qual] at k2;refine kla_makeFunctionHit (mg:=S.mg) hcl p.e.globals (sR p.r) hcode hC t1 t3 hca bi λctv h' tk hk hsz=>?_;obtain⟨x1,x2,x3⟩:=made g h' cc _ ctv tk (aG.bq hk) (p.r.bq hk) k1 (k2.keeps hk);exact hq _ _ _ x1 x2 x3
  |none=>refine kla_makeFunction (mg:=S.mg) hcl p.e.globals (sR p.r) hcode hC t1 t3 hca hGP bi λc' ctv h' tk hx' hge hlt hrec htb=>?_;have hdead:sh.heap.get? c'=none:=Qf hge;obtain⟨y1,y2⟩:=p.r.G5 (tk:=tk) le.fC t1 t3 hx' hdead (by simp only[le.qual];exact hrec) htb;obtain⟨x1,x2,x3⟩:=made _ h' c' _ ctv tk y1 y2 (Rj _ PJ) hrec;exact hq _ _ _ x1 x2 x3
theorem BY{p:Nat->Bool}(c:Nat)(l:List Value):∀i:Nat,(∀k,k<i+l.length->p k=decide (c<=k))->((l.zipIdx i).filterMap λ(x,k)=>if p k=true then none else some x)=l.take (c-i):=by
 induction l with
 |nil=>exact λi zz=>List.take_nil.symm|cons x l ih=>
  intro i h;have ih:=ih (i+1) λk hk=>h k (Nat.lt_of_lt_of_eq hk (RC i 1 l.length));have hi:=h i (Nat.lt_add_of_pos_right (RK _));exact QN (λhc:c<=i=>(List.filterMap_cons_none (f:=λ(x,k)=>if p k=true then none else some x) (a:=(x,i)) (if_pos (hi.trans (decide_eq_true hc)))).trans (ih.trans (by rw[Q7 hc,Q7 (RI hc)];rfl)))
   λhc=>(List.filterMap_cons_some (f:=λ(x,k)=>if p k=true then none else some x) (a:=(x,i)) (b:=x) (if_neg λz=>hc (of_decide_eq_true (hi.symm.trans z)))).trans ((congrArg (x:: ·) ih).trans (congrArg (λn=>List.take n (x::l)) (Nat.succ_pred_eq_of_pos (Nat.sub_pos_of_lt (Nat.lt_of_not_le hc)))))
theorem xx{p:Nat->Bool}(c:Nat)(l:List Value)(i:Nat)(h:(∀k,p k=decide (c<=k))\/(∀k,k<i+l.length->p k=decide (c<=k))):((l.zipIdx i).filterMap λ(x,k)=>if p k=true then none else some x)=l.take (c-i):=
 BY c l i (h.elim (λh k zz=>h k) id)
theorem tn{l a:Addr}{items:Array Value}{m:Nat}{vl vu vs:Value}{k:Int}{Q:Unit->Shared->Prop}{Ex:Ec}(ho:sh.heap.get? l=some {cls:=.type "list",data:=.seq items m})(hs:sh.heap.IsSliceOf a vl vu vs)(pl:IsPart vl (some k))(pu:IsPart vu none)(ps:IsPart vs none)(hz:items.size<=sizeLine)
  (h:∀f:Array Value->Array Value,f items=(items.toList.take (aV items.size k)).toArray->Q () {sh with heap:=sh.heap.update l (Qs f)}):wpAny S.M A (delItem (.ref l) (.ref a)) Q Ex sh:=by
 refine aO (id hs) λos hos hcs hds=>?_;have hTs:sh.TypeIs (.ref a) "slice":=ag os hos hcs;have hTl:sh.TypeIs (.ref l) "list":=ag _ ho rfl;refine wpAny_delItem_slot hTl (by decide) F.slot_list_delitem (wpAny_call_entry F.slot_list_delitem hTl F.entry_list_delitem ?_ (F.args_list_delitem_2 _ _));refine(?_:wpAny _ _ (Builtin.List.listSubscript? (.ref a)>>=_) _ _ sh);refine wpAny_bind ?_;refine wpAny_bind (wpAny_specialOf hTs slice_no_index ?_);refine wpAny_pure ?_;refine wpAny_bind (wpAny_typeOf hTs ?_);refine wpAny_bind (wpAny_bind (wpAny_field hos hds (x:=vs) rfl (wpAny_bind (wpAny_listPart ps ?_))));refine(if_neg (R1)).symm▸?_;refine wpAny_bind (wpAny_field hos hds (x:=vl) rfl (wpAny_bind (wpAny_listPart pl ?_)));refine wpAny_bind (wpAny_field hos hds (x:=vu) rfl (wpAny_bind (wpAny_listPart pu (wpAny_pure ?_))));refine wpAny_bind (m:=Builtin.List.listItems (.ref l)) ?_;refine wpAny_bind (wpAny_seqItems ho rfl (wpAny_pure ?_));refine wpAny_bind (wpAny_of_eq (sliceIndices_raw (some k) none none items.size (by simp)) ?_);have hb:sliceBounds (some k) none none items.size=((aV items.size k:Int),(items.size:Int),1):=qS (some k) none items.size;refine hb.symm▸?_;dsimp only;have hp:∀(p:Nat->Bool),(∀j,p j=(if(1:Int)>0 then decide ((aV items.size k:Int)<=j)&&decide ((j:Int)<(items.size:Int))&&(((j:Int)-(aV items.size k:Int))%1==0) else false))->
   ((items.toList.zipIdx 0).filterMap λ(x,j)=>if p j=true then none else some x)=items.toList.take (aV items.size k):=λp hp=>by
  have:=xx (p:=p) (aV items.size k) items.toList 0 (.inr λj hj=>by
   rw[hp,if_pos (by decide),Int.emod_one];have h2:decide ((j:Int)<(items.size:Int))=true:=by simp at hj⊢;omega
   simp only[h2];simp)
  simpa using this
 refine wpAny_bind (wpAny_rule ?_);refine wpAny_bind (m:=Builtin.List.listUpdate (.ref l) _) ?_;refine wpAny_updateSeq ho rfl ?_ hz ?_
 .refine wpAny_bind (wpAny_letGo (wpAny_pure (ag _ rfl (h _ ?_))));exact congrArg List.toArray (hp _ λj=>rfl)
 .have:=congrArg List.toArray (hp _ λj=>rfl);refine PN (Qa (congrArg Array.size this)) ?_;simp only[Q6,RS];simp only[QG];exact PN (Nat.min_le_right _ _) (RI hz)
set_option tactic.hygienic true in
theorem Jz{c ca:Code V}{oe ae:PE}{sp dp pos:Pos}(w:aF S hN n sc ctx c oe)(wa:aF S hN n sc ctx ca ae):iN S hN n sc ctx (Mp.s.H8 c ca) (.Delete [.Subscript oe (.Slice (some ae) none none sp) dp] pos):=λA g s sh lo env p=>by
 have he:exec (.Delete [.Subscript oe (.Slice (some ae) none none sp) dp] pos) env=(standAt pos>>=λ_=>eval oe env>>=λov=>holding [ov] (eval (.Slice (some ae) none none sp) env)>>=λiv=>standAt dp>>=λ_=>holding [ov,iv] (delItem ov iv)>>=λ_=>release [ov,iv] []>>=λ_=>P2 PySem.Flow.next):=by rw[arm_exec_Delete];refine(?_:(standAt pos>>=λ_=>((eval oe env>>=λov=>holding [ov] (eval (.Slice (some ae) none none sp) env)>>=λiv=>standAt dp>>=λ_=>holding [ov,iv] (delItem ov iv)>>=λ_=>release [ov,iv] [])>>=λ_=>(P2 ():Sem Unit))>>=λ_=>P2 PySem.Flow.next)=_);simp only[bind_assoc,pure_bind]
 rw[he];refine W.aT (w.bind p λvo s1 g1 sh1 xo e1 p1 q1=>?_);have:∀ {K:V->St->R (Mp.Flow×Lo)},(ca ctx lo s1).bind K=((ca ctx lo s1).bind λa s=>(Mp.e.none ctx lo s).bind λb s=>(Mp.e.none ctx lo s).bind λc s=>.ok (a,b,c) s).bind λd s=>K d.1 s:=by intro K;cases ca ctx lo s1<;>rfl
 rw[this];refine W.bind (W.dW (kr (Bh wa) wK wK p1)) λd s2 g2 sh2 yi hd e2 r2 q2=>?_;refine AL q2 λad vl vu vt z4 hs ql qu qt=>?_;clear q2 e1 he p wa w;refine z4▸?_;have hdn:d.2.1=.none/\d.2.2=.none:=by
  cases hca:ca ctx lo s1 with
  |no _=>rw[hca] at hd;exact kW hd|ez _ _=>replace hd:=hca▸hd;exact Fl hd|ok a s'=>rw[hca] at hd;injection hd with hd;exact hd▸⟨rfl,rfl⟩
 clear z4 hd this;obtain⟨da,db,dc⟩:=d;obtain⟨rfl,rfl⟩:=hdn;have p2:=p1.step e2 r2;cases vo<;>try trivial
 rename_i l;cases da<;>try trivial
 rename_i a;dsimp only;split
 .rename_i vs hvs;cases hz:aN (len vs) with
  |false=>trivial|true=>
   refine eD (dH r2 (q1.ext e2) hvs) λal ys m z3 h1 ho q3=>?_;clear q1 e2 p1;obtain rfl:=z3;obtain⟨tk,rfl⟩:=ql.aB;have hn:=q3.dz;refine W.aT (λQ Ex k=>wpAny_bind (wpAny_holding (tn ho hs (.int a tk) (by rw[qu.el];exact .none) (by rw[qt.el];exact .none) (by have:=bp hz;simp only[sizeLine_eq];exact r8 hn this) λf hf=>?_)));obtain⟨e3,r3⟩:=jr (X:=[]) (f:=f) (tk:=sh2.toks) (vs':=take vs (aV (len vs) a)) r2 h1 ho (by
    simp only[hf,eN,aJ,<-hn];exact q3.take _)
   have p3:=p2.step (sh':={sh2 with heap:=sh2.heap.update al (Qs f)}) e3 r3;exact wpAny_bind (wpAny_release (wpAny_pure (k _ _ _ e3 r3 ⟨.next,p3.gX⟩)))
 .trivial
theorem BZ{α:Type}{n:Nat}{o:Nat->Nat->Bool}{cmp:Nat->Nat->(Bool->Shared->Prop)->Shared->Prop}{Q:α->Shared->Prop}(hc:∀i j (C:Bool->Shared->Prop),i<n->j<n->i≠j->C (o i j) sh->cmp i j C sh):∀(t:KasT α),zv n t=true->Q (fH o t) sh->t.kasWp cmp Q sh
 |.ret a,_,h=>h|.ask i j k,hi,h=>
  have h1:=aL.mp (show aP (QT i n) (aP (QT j n) (aP (eA (P8 i j)) (aP (zv n (k true)) (zv n (k false)))))=true from hi);have h2:=aL.mp h1.2;have h3:=aL.mp h2.2;have h4:=aL.mp h3.2
  hc i j _ (QR.mp h1.1) (QR.mp h2.1) (λe=>Qu (h3.1.symm.trans (congrArg eA ((congrArg (P8 i) e.symm).trans (RL i))))) (BZ hc (k (o i j)) (match o i j with|true=>h4.1|false=>h4.2) h)
theorem Aj{prog:Program}{w:World}{E:Ec}{a:Addr}{m:Nat}{vs:List Value}{P:PySem.Fin->Shared->Prop}{κ:SortKind}{o:Nat->Nat->Bool}(ho:sh.heap.get? a=some (seqObj "list" vs.toArray m))(h2:2<=vs.length)(h64:vs.length<64)(hin:zv vs.length (kas_sort vs.length)=true)
  (hk:∀(h1:Heap) (Q:SortKind->Shared->Prop) (E:Ec),(∀b o,b≠a->sh.heap.get? b=some o->h1.get? b=some o)->Q κ {sh with heap:=h1}->wpAny (model prog w) A (keyKind' vs.toArray) Q E {sh with heap:=h1})
  (hc:∀(h1:Heap) (i j:Nat) (C:Bool->Shared->Prop),i<vs.length->j<vs.length->i≠j->(∀b o,b≠a->sh.heap.get? b=some o->h1.get? b=some o)->C (o i j) {sh with heap:=h1}->kas_ask prog w A κ vs i j C {sh with heap:=h1})
  (hp:∀h' c2,(∀b o,b≠a->sh.heap.get? b=some o->h'.get? b=some o)->h'.get? a=some (seqObj "list" (List.toArray ((fH o (kas_sort vs.length)).toList.map λi=>vs.getD i Rz)) c2)->(fH o (kas_sort vs.length)).size=vs.length->P (.done (.ret .none)) {sh with heap:=h'}):
  wpAny (model prog w) A (Builtin.«list.sort» ⟨[.ref a],[]⟩) P E sh:=by
 have s1:=Qo sh.heap a (Qs λzz=>(#[]:Array Value));obtain⟨e1,ho1⟩:∃e1,(sh.heap.update a (Qs λzz=>(#[]:Array Value))).get? a=some (seqObj "list" #[] e1):=⟨_,get?_update_seq ho λzz=> #[]⟩;have keep1:∀b o,b≠a->sh.heap.get? b=some o->(((sh.heap.update a (Qs λzz=>(#[]:Array Value))).push (seqObj "tuple" vs.toArray 0)).push (seqObj "list" #[] 0)).get? b=some o:=λb o n e=>PO _ (PO _ ((s1.2 b n).trans e));have hoA:(((sh.heap.update a (Qs λzz=>(#[]:Array Value))).push (seqObj "tuple" vs.toArray 0)).push (seqObj "list" #[] 0)).get? a=some (seqObj "list" #[] e1):=PO _ (PO _ ho1);rw[list_sort_plain];refine wpAny_bind (listItems_at ho rfl ?_);refine wpAny_bind (listUpdate_at ho rfl ?_ (by rw[Q6,sizeLine_eq];omega) (QX _));refine wpAny_bind (seqEpoch_at ho1 rfl ?_);refine wpAny_bind (wpAny_newTuple ?_ (by refine(?_:vs.length<=_);rw[sizeLine_eq];omega));refine wpAny_bind (wpAny_newList ?_ (QX _));refine wpAny_holding ?_;have hn2:¬vs.toArray.size<2:=by rw[Q6];exact Q4 h2
 rw[if_neg hn2,if_neg hn2];refine wpAny_bind (hk _ _ _ keep1 ?_);have run:=BZ (sh:={sh with heap:=((sh.heap.update a (Qs λzz=>(#[]:Array Value))).push (seqObj "tuple" vs.toArray 0)).push (seqObj "list" #[] 0)}) (cmp:=kas_ask prog w A κ vs) (o:=o)
  (Q:=λp s'=>p=fH o (kas_sort vs.length)/\s'={sh with heap:=((sh.heap.update a (Qs λzz=>(#[]:Array Value))).push (seqObj "tuple" vs.toArray 0)).push (seqObj "list" #[] 0)}) (λi j C a1 a2 a3 hC=>hc _ i j C a1 a2 a3 keep1 hC) (kas_sort vs.length) hin ⟨rfl,rfl⟩
 refine wpAny_bind (wpAny_mono (kat_run (Q:=λst' s'=>∃p:Array Nat,p.size=vs.length/\arrOf st'=p.map (kas_item (vs.toArray.zip vs.toArray))/\failedOf st'=none/\(p=fH o (kas_sort vs.length)/\s'={sh with heap:=((sh.heap.update a (Qs λzz=>(#[]:Array Value))).push (seqObj "tuple" vs.toArray 0)).push (seqObj "list" #[] 0)}))
  rfl h2 h64 (λp' st' s' a1 a2 a3 a4=>iH p' a1 a2 a3 a4) run) ?_ λzz zz e=>e)
 rintro⟨⟨⟩,st'⟩ s' ⟨p,hps,har,hf,rfl,rfl⟩;dsimp only;have hout:=kat_snds rfl har;have hsz:(List.toArray ((fH o (kas_sort vs.length)).toList.map λi=>vs.getD i Rz)).size=vs.length:=by simp only[Q6,P9,QG,hps]
 refine hout.symm▸?_;have s2:=Qo (((sh.heap.update a (Qs λzz=>(#[]:Array Value))).push (seqObj "tuple" vs.toArray 0)).push (seqObj "list" #[] 0)) a (Qs λzz=>List.toArray ((fH o (kas_sort vs.length)).toList.map λi=>vs.getD i Rz));obtain⟨c2,hc2⟩:∃c2,((((sh.heap.update a (Qs λzz=>(#[]:Array Value))).push (seqObj "tuple" vs.toArray 0)).push (seqObj "list" #[] 0)).update a (Qs λzz=>List.toArray ((fH o (kas_sort vs.length)).toList.map λi=>vs.getD i Rz))).get? a=some (seqObj "list" (List.toArray ((fH o (kas_sort vs.length)).toList.map λi=>vs.getD i Rz)) c2):=⟨_,get?_update_seq hoA λzz=>List.toArray ((fH o (kas_sort vs.length)).toList.map λi=>vs.getD i Rz)⟩;refine wpAny_bind (seqEpoch_at hoA rfl ?_);refine wpAny_bind (listUpdate_at hoA rfl ?_ (QX _) (PN (Qa hsz) (by rw[sizeLine_eq];omega)));refine hf.symm▸?_;simp only[bne_self_eq_false,RB,if_false];exact wpAny_pure (hp _ c2 (λb o n e=>(s2.2 b n).trans (keep1 b o n e)) hc2 hps)
theorem ry:∀(x y:List Nat),qG x y=true↔x<y
 |[],[]=>by refine(?_:false=true↔_);simp
 |[],_::_=>by refine(?_:true=true↔_);simp
 |_::_,[]=>by refine(?_:false=true↔_);simp
 |a::x,b::y=>by
  have ih:=ry x y;refine(?_:(@PS (λzz=>Bool) (@PS (λzz=>Bool) false (qG x y) (P8 a b)) true (QT a b))=true↔_);rw[List.cons_lt_cons_iff];cases h1:QT a b with
  |true=>have:a<b:=(ek a b).mp h1;simp[this]
  |false=>
   have hn:¬a<b:=λq=>by rw[(ek a b).mpr q] at h1;exact nomatch h1
   cases h2:P8 a b with
   |true=>have:a=b:=Q8 h2;refine this▸?_;simp[ih]
   |false=>
    have hne:a≠b:=λq=>by rw[q,RL] at h2;exact nomatch h2
    simp[hn,hne]
theorem yJ{prog:Program}{w:World}{x y:List Nat}{t u:Tok}{Q:Bool->Shared->Prop}{Ex:Ec}(h:Q (qG x y) sh):wpAny (model prog w) A (oneLt' false (.str (ak x) t) (.str (ak y) u)) Q Ex sh:=by
 refine kat_one _ _ (lt_str ?_);have e:qG x y=decide (x<y):=by rw[QJ,decide_eq_true_iff];exact ry x y
 simp only[show(ak x).cps.toList=x from rfl,show(ak y).cps.toList=y from rfl,<-e];exact h
noncomputable def En (h:Heap) (y:Value) (t:Int×List Nat×List Nat):Prop:=∃a o m t0 t1 t2,y=.ref a/\h.get? a=some o/\o.cls=.type "tuple"/\o.data=.seq #[.int t.1 t0,.str (ak t.2.1) t1,.str (ak t.2.2) t2] m
theorem yK{v:V}{i:Int}(h:vI v=some i):v=.int i:=by cases v<;>first|(exact ns h;done)|exact congrArg V.int (PD h)
theorem tu{v:V}{i:List Nat}(h:vS v=some i):v=.str i:=by cases v<;>first|(exact ns h;done)|exact congrArg V.str (PD h)
theorem G6{v:V}{y:Value}{t:Int×List Nat×List Nat}(h:nF v=some t)(q:VR S g sh.heap v y):En sh.heap y t:=by
 cases v with
 |av l=>
  match l,h,q with
  |[a,b,c],h,q=>refine aa (PV.mp h) λi e1 h=>?_;refine aa (PV.mp h) λx e2 h=>?_;refine aa (PV.mp h) λp e3 h=>?_;refine(PD h)▸?_;obtain rfl:=yK e1;obtain rfl:=tu e2;obtain rfl:=tu e3;refine aw q.cG λad xs z2 zz0 h4=>?_;refine z2▸?_;obtain⟨o,h1,h2,m,h3⟩:=zz0;refine aw h4.bI λz1 r1 e1 k1 k2=>?_;refine aw k2.bI λz2 r2 e2 k3 k4=>?_;refine aw k4.bI λz3 r3 e3 k5 k6=>?_;clear k4 k2;obtain⟨t,rfl⟩:=k1.aB;obtain⟨t1,rfl⟩:=k3.bG;obtain⟨t2,rfl⟩:=k5.bG;obtain rfl:=k6.fj;subst e3;subst e2;exact⟨ad,o,m,t,t1,t2,rfl,h1,h2,h3.trans (congrArg (Data.seq · m) (Array.toList_inj.mp e1))⟩
  |[],h,_=>exact ns h|[_],h,_=>exact ns h|[_,_],h,_=>exact ns h|_::_::_::_::_,h,_=>exact ns h
 |_=>exact ns h
theorem G7{x y:Value}{a b:Int×List Nat×List Nat}{Q:Bool->Shared->Prop}{Ex:Ec}(hu:A.units+8<cLine)(ta:En sh.heap x a)(tb:En sh.heap y b)(h:Q (Lg a b) sh):wpAny S.M A (keyLt' (tuples' true) x y) Q Ex sh:=by
 refine yf ta λax ox m t t1 t2 z6 hx zz dx=>?_;refine z6▸?_;refine yf tb λay oy k u u1 u2 z6 hy zz dy=>?_;refine z6▸?_;refine kat_lt hx dx hy dy ?_;unfold Lg at h;refine(?_:KatLex S.prog S.w A true false Q [(.int a.1 t,.int b.1 u),(.str (ak a.2.1) t1,.str (ak b.2.1) u1),(.str (ak a.2.2) t2,.str (ak b.2.2) u2)] 0 sh);refine kat_cons (hW (S:=S) (g:=⟨[],[]⟩) hu (a:=.int a.1) (b:=.int b.1) rfl rfl VR.mkInt VR.mkInt ?_);refine(?_:KatGo _ _ _ _ _ _ _ _ _ _ (kP a.1 b.1) sh);refine kat_go (λe1=>kat_yes ?_) (λe1=>kat_no ?_)
 .rw[e1] at h;refine kat_cons (hW (S:=S) (g:=⟨[],[]⟩) hu (a:=.str a.2.1) (b:=.str b.2.1) rfl rfl VR.eE VR.eE ?_);refine(?_:KatGo _ _ _ _ _ _ _ _ _ _ (hJ a.2.1 b.2.1) sh);refine kat_go (λe2=>kat_yes ?_) (λe2=>kat_no ?_)
  .rw[e2] at h;refine kat_cons (hW (S:=S) (g:=⟨[],[]⟩) hu (a:=.str a.2.2) (b:=.str b.2.2) rfl rfl VR.eE VR.eE ?_);refine(?_:KatGo _ _ _ _ _ _ _ _ _ _ (hJ a.2.2 b.2.2) sh);refine kat_go (λe3=>kat_yes ?_) (λe3=>kat_no ?_)
   .rw[e3] at h;exact kat_nil h
   .rw[e3] at h;exact yJ h
  .rw[e2] at h;exact yJ h
 .rw[e1] at h;exact oneLt_int ((sf ..)▸h)
theorem B0{vs:List Value}(hne:0<vs.length)(ht:∀y∈vs,∃t,En sh.heap y t){Q:SortKind->Shared->Prop}{Ex:Ec}(h:Q (tuples' true) sh):wpAny S.M A (keyKind' vs.toArray) Q Ex sh:=by
 have key:∀ {vs:List Value},(∀y∈vs,∃t,En sh.heap y t)->∃fs,KatTups sh.heap vs fs/\fs.length=vs.length/\∀f∈fs,∃i t,f=.int i t:=by
  intro vs;induction vs with
  |nil=>intro _;exact bk ([]) trivial rfl (λf m=>by cases m)|cons y vs ih=>
   intro ht;refine aO (ih λz m=>ht z (PL _ m)) λfs i1 i2 i3=>?_;obtain⟨⟨i,x⟩,a,o,m,t,t1,t2,rfl,k1,k2,k3⟩:=ht y PJ;exact⟨.int i t::fs,KatTups.cons k1 k2 k3 rfl i1,by simp[i2],λf mm=>by
    refine QK (PU.mp mm) (λe=>?_) λmm=>?_
    .exact gb i t e
    .exact i3 f mm⟩
 refine aO (key ht) λfs k1 k2 k3=>?_;refine kat_kind (T:=.type "int") k1 (Gg hne k2.symm) (λv m=>?_) (by decide) ?_
 .refine mZ (k3 v m) λi t z2=>?_;exact z2▸ .now
 .exact h
theorem En.keep{y:Value}{t:Int×List Nat×List Nat}(q:En h y t)(hk:∀b o,h.get? b=some o->h'.get? b=some o):En h' y t:=
 Fj q λa o m t0 t1 t2 k1 k2 k3=>⟨a,o,m,t0,t1,t2,k1,hk _ _ k2,k3⟩
theorem xy{prog:Program}{w:World}{E:Ec}{a:Addr}{m:Nat}{vs:List Value}{P:PySem.Fin->Shared->Prop}(ho:sh.heap.get? a=some (seqObj "list" vs.toArray m))(h2:vs.length<2)
  (hp:∀h' c2,(∀b o,b≠a->sh.heap.get? b=some o->h'.get? b=some o)->h'.get? a=some (seqObj "list" vs.toArray c2)->P (.done (.ret .none)) {sh with heap:=h'}):
  wpAny (model prog w) A (Builtin.«list.sort» ⟨[.ref a],[]⟩) P E sh:=by
 obtain⟨e1,ho1⟩:∃e1,(sh.heap.update a (Qs λzz=>(#[]:Array Value))).get? a=some (seqObj "list" #[] e1):=⟨_,get?_update_seq ho λzz=> #[]⟩;have s1:=Qo sh.heap a (Qs λzz=>(#[]:Array Value));have keep1:∀b o,b≠a->sh.heap.get? b=some o->(((sh.heap.update a (Qs λzz=>(#[]:Array Value))).push (seqObj "tuple" vs.toArray 0)).push (seqObj "list" #[] 0)).get? b=some o:=λb o n e=>PO _ (PO _ ((s1.2 b n).trans e));have hoA:(((sh.heap.update a (Qs λzz=>(#[]:Array Value))).push (seqObj "tuple" vs.toArray 0)).push (seqObj "list" #[] 0)).get? a=some (seqObj "list" #[] e1):=PO _ (PO _ ho1);rw[list_sort_plain];refine wpAny_bind (listItems_at ho rfl ?_);refine wpAny_bind (listUpdate_at ho rfl ?_ (by rw[Q6,sizeLine_eq];omega) (QX _));refine wpAny_bind (seqEpoch_at ho1 rfl ?_);refine wpAny_bind (wpAny_newTuple ?_ (by refine(?_:vs.length<=_);rw[sizeLine_eq];omega));refine wpAny_bind (wpAny_newList ?_ (QX _));refine wpAny_holding ?_;have hn2:vs.toArray.size<2:=by rw[Q6];omega
 rw[if_pos hn2,if_pos hn2];refine wpAny_bind (wpAny_pure (wpAny_bind (wpAny_pure ?_)));dsimp only;have harr:Array.map (·.2) (arrOf (SortSt.mk' general' (vs.toArray.zip vs.toArray) #[] 7 none))=vs.toArray:=by refine(?_:Array.map (·.2) (vs.toArray.zip vs.toArray)=vs.toArray);apply Array.toList_inj.mp;simp;exact List.map_snd_zip (P5 _)
 refine harr.symm▸?_;have s2:=Qo (((sh.heap.update a (Qs λzz=>(#[]:Array Value))).push (seqObj "tuple" vs.toArray 0)).push (seqObj "list" #[] 0)) a (Qs λzz=>vs.toArray);obtain⟨c2,hc2⟩:∃c2,((((sh.heap.update a (Qs λzz=>(#[]:Array Value))).push (seqObj "tuple" vs.toArray 0)).push (seqObj "list" #[] 0)).update a (Qs λzz=>vs.toArray)).get? a=some (seqObj "list" vs.toArray c2):=⟨_,get?_update_seq hoA λzz=>vs.toArray⟩;refine wpAny_bind (seqEpoch_at hoA rfl ?_);refine wpAny_bind (listUpdate_at hoA rfl ?_ (QX _) (by rw[Q6,sizeLine_eq];omega));simp only[bne_self_eq_false,RB,if_false];exact wpAny_pure (hp _ c2 (λb o n e=>(s2.2 b n).trans (keep1 b o n e)) hc2)
theorem mu{l:Addr}{ys zs:List Value}{m:Nat}{Q:Ec}{Ex:Ec}(hl:sh.heap.get? l=some (seqObj "list" ys.toArray m))(h64:ys.length<64)
  (body:∀(h0:Heap) (L:Addr) (P:PySem.Fin->Shared->Prop) (E:Ec),(∀b o,sh.heap.get? b=some o->h0.get? b=some o/\b≠L)->h0.get? L=some (seqObj "list" ys.toArray 0)->
   (∀h' c2,(∀b o,b≠L->h0.get? b=some o->h'.get? b=some o)->h'.get? L=some (seqObj "list" zs.toArray c2)->P (.done (.ret .none)) {sh with heap:=h'})->wpAny S.M A.in1.in1 (Builtin.«list.sort» ⟨[.ref L],[]⟩) P E {sh with heap:=h0})
  (hQ:∀D h' c2,(∀b o,sh.heap.get? b=some o->h'.get? b=some o)->sh.heap.get? D=none->h'.get? D=some (seqObj "list" zs.toArray c2)->Q (.ref D) {sh with heap:=h'}):
  wpAny S.M A (P6 (.builtin "sorted") [.ref l]) Q Ex sh:=by
 refine Calls.call_function_entry kind_sorted plain_sorted entry_sorted (args_sorted1 _) ?_;have hl':sh.heap.IsList l ys.toArray:=⟨_,hl,rfl,m,rfl⟩;refine wpAny_bind (m:=checkCount "sorted" 1 1 _) (wpAny_pure ?_);refine wpAny_bind (collect_list hl' ?_ (by rw[sizeLine_eq];omega));refine wpAny_bind (wpAny_newList ?_ (by rw[sizeLine_eq];omega));have hsz:((sh.heap.push (seqObj "list" #[] 0)).update sh.heap.objs.size (Qs (· ++ys.toArray))).objs.size=sh.heap.objs.size+1:=by rw[Heap.size_update,size_push']
 have hoL:(((sh.heap.push (seqObj "list" #[] 0)).update sh.heap.objs.size (Qs (· ++ys.toArray))).push (seqObj "list" ys.toArray 0)).get? (sh.heap.objs.size+1)=some (seqObj "list" ys.toArray 0):=by simp only[<-hsz];exact PQ _ rfl
 have keep:∀b o,sh.heap.get? b=some o->(((sh.heap.push (seqObj "list" #[] 0)).update sh.heap.objs.size (Qs (· ++ys.toArray))).push (seqObj "list" ys.toArray 0)).get? b=some o:=λb o q=>by have hlt:b<sh.heap.objs.size:=Rk q;rw[Heap.get?_push_ne _ _ _ (by simp only[hsz];exact Qw (Qy hlt)),Heap.get?_update_ne _ _ _ _ (Qw hlt),Heap.get?_push_ne _ _ _ (Qw hlt)];exact q
 have hD:∀b o,sh.heap.get? b=some o->b≠sh.heap.objs.size+1:=λb o q e=>by have:=Rk q;rw[e] at this;exact RP _ (Nat.lt_of_succ_lt this)
 refine(?_:wpAny _ _ _ _ _ {sh with heap:=((sh.heap.push (seqObj "list" #[] 0)).update sh.heap.objs.size (Qs (· ++ys.toArray))).push (seqObj "list" ys.toArray 0)});refine hsz.symm▸?_;refine wpAny_bind (wpAny_holding (wpAny_call_entry slot_list_sort (ag _ hoL rfl) entry_list_sort ?body (args_list_sort _)))
 case body=>
  exact body _ _ _ _ (λb o q=>⟨keep b o q,hD b o q⟩) hoL λh' c2 hk hd=>ag _ rfl (wpAny_pure (ag _ rfl (hQ _ h' c2 (λb o q=>hk b o (hD b o q) (keep b o q)) (Qf (R5 _)) hd)))
theorem xA{D:Addr}{rs:List V}{zs:List Value}{c2:Nat}(r:aD S g s sh)(hk:∀b o,sh.heap.get? b=some o->h'.get? b=some o)(hd:sh.heap.get? D=none)(ho:h'.get? D=some (seqObj "list" zs.toArray c2))(q:aI S g sh.heap rs zs):
  aG S [] g sh.heap (g.add D) h'/\aD S (g.add D) (s.new (.list rs)) {sh with heap:=h'}/\VR S (g.add D) h' (.ar s.n) (.ref D):=by
 have e1:aG S [] g sh.heap g h':=aG.bq hk;have r1:aD S g s {sh with heap:=h'}:=r.bq (tk:=sh.toks) hk;have hl:D∉g.ar:=λm=>by obtain⟨i,hi⟩:=PR.mp m;refine aa (r.bc i D hi) λo' zz h2=>?_;refine aa h2.get λob' h3 zz=>?_;rw[hd] at h3;exact ns h3
 have e2:=e1.uj (a:=D) hd;refine j2 e2 (r1.uj hl (r.fresh hd) (bW zs.toArray c2 ho (by simpa using q.ext e2))) ?_;exact ag D (Gh.gU r1 D) rfl
theorem aI.getD{vs:List V}{ys:List Value}(q:aI S g h vs ys)(i:Nat):VR S g h (H7 vs i) (ys.getD i Rz):=by
 unfold H7;rw[Qb,Qb];cases e:vs[i]? with
 |some v=>refine aa (q.get e) λx h1 h2=>?_;rw[h1];exact h2
 |none=>rw[List.getElem?_eq_none (q.length▸List.getElem?_eq_none_iff.mp e)];rfl
theorem aI.pick{vs:List V}{ys:List Value}(q:aI S g h vs ys):∀p:List Nat,aI S g h (p.map (H7 vs)) (p.map λi=>ys.getD i Rz)
 |[]=>aI.nil|i::p=>aI.cons (q.getD i) (aI.pick q p)
theorem rz:∀ {vs:List V} {i:Nat},v3 vs=true->i<vs.length->nF (H7 vs i)=some (qH vs i)
 |v::vs,0,h,_=>by
  have:=(aL.mp h).1;refine(?_:nF v=some ((nF v).getD _));cases e:nF v with
  |none=>rw[e] at this;exact ft this|some t=>rfl
 |v::vs,i+1,h,hi=>rz (vs:=vs) (aL.mp h).2 (Ry hi)
theorem xB{l:Nat}{y:Value}{vs rs:List V}(hu:A.units+20<cLine)(r:aD S g s sh)(q:VR S g sh.heap (.ar l) y)(hl:s.get l=some (.list vs))(hs:iG vs=some rs):W S [] A (VR S) (P6 (.builtin "sorted") [y]) g sh (.ok (.ar s.n) (s.new (.list rs))):=λQ Ex k=>by
 refine eD (dH r q hl) λa xs m z3 h1 ho qv=>?_;refine z3▸?_;have ho':sh.heap.get? a=some (seqObj "list" xs.toList.toArray m):=by skip;exact ho
 have dY:∀ {zs:List Value} {D:Addr} {h':Heap} {c2:Nat},aI S g sh.heap rs zs->(∀b o,sh.heap.get? b=some o->h'.get? b=some o)->sh.heap.get? D=none->h'.get? D=some (seqObj "list" zs.toArray c2)->Q (.ref D) {sh with heap:=h'}:=λ {zs D h' c2} qz hk hd hD=>by refine nI (xA r hk hd hD qz) λe1 r1 v1=>?_;exact k _ _ _ e1 r1 v1
 generalize xs.toList=ys at ho' qv;have hn:=qv.length;unfold iG at hs;cases e:QT vs.length 2 with
 |true=>rw[e] at hs;clear ho k;obtain rfl:=PD hs;have h2:ys.length<2:=hn▸QR.mp e;exact mu ho' (QD h2 (by decide)) (λh0 L P E hk hd hp=>xy hd h2 hp) λD h' c2 hk hd hD=>dY qv hk hd hD
 |false=>
  rw[e] at hs;refine cy (aP (QT vs.length 64) (aP (v3 vs) (zv vs.length (PySem.W.kas_sort vs.length)))) (λe2=>?_) λe2=>?_
  .rw[e2] at hs;exact ns hs
  .rw[e2] at hs;obtain rfl:=PD hs;obtain⟨h64,e2⟩:=aL.mp e2;obtain⟨ht,hin⟩:=aL.mp e2;have h64:ys.length<64:=hn▸QR.mp h64;have h2:2<=ys.length:=hn▸Nat.le_of_not_lt λz=>Qu (e.symm.trans (QR.mpr z));have JA:∀i,i<ys.length->En sh.heap (ys.getD i Rz) (qH vs i):=λi hi=>G6 (rz ht (hn.symm▸hi)) (qv.getD i);refine mu ho' h64 (λh0 L P E hk hd hp=>Aj (κ:=tuples' true) (o:=λi j=>Lg (qH vs i) (qH vs j)) hd h2 h64 (hn▸hin) (λh1 Q E hk1 hq=>?_) (λh1 i j C a1 a2 a3 hk1 hC=>?_) λh' c2 hk1 hd' hs'=>hp h' c2 hk1 (hn.symm▸hd')) λD h' c2 hk hd hD=>dY (qv.pick _) hk hd hD
   .exact B0 (S:=S) (sh:={sh with heap:=h1}) (Qg h2) (λy my=>by obtain⟨i,hi⟩:=PR.mp my;have:=JA i (PX.mp hi).1;rw[Qb,hi] at this;exact⟨_,this.keep λb o q=>hk1 b o (hk b o q).2 (hk b o q).1⟩) hq
   .exact G7 (S:=S) (sh:={sh with heap:=h1}) (by refine(?_:A.units+1+1+8<cLine);omega) ((JA i a1).keep λb o q=>hk1 b o (hk b o q).2 (hk b o q).1) ((JA j a2).keep λb o q=>hk1 b o (hk b o q).2 (hk b o q).1) hC
theorem B4(l:Nat)(s:St):ed 8 (.ar l) s=match s.get l with
   |some (.list vs)=>(match iG vs with|some r=>.ok (.ar s.n) (s.new (.list r))|.none=>.no 84)|_=>.no 84:=rfl
set_option tactic.hygienic true in
theorem B5{P:G}{y:Str}{np pos:Pos}{c:Code V}{pe:PE}(hk:sc.lookup y=some .globalImplicit)(hd:(y==("__debug__":Str))=false)(hv:S.cQ y=some (.builtin "sorted"))(q:bM S true n sc ctx [c] [pe]):aF S true n sc ctx (e.aS P 8 [c]) (.Call (.Name y np) [pe] [] pos):=λA g s sh lo env p=>by
 refine(?_:W S [] A (VR S) (eval (.Name y np) env>>=λfv=>callWith pos fv [] (backTo pos (starEach [pe] env)) (backToKw pos (keywordEach [] env))) g sh _);rw[aY q];refine W.oh (f:=λys=>P6 (.builtin "sorted") ys) (eQ q p) (λQ Ex h=>?_) λvs s1 g1 sh1 ys _ e1 r1 q1=>?_
 .refine wpAny_bind (dm p hk hv hd ?_);exact Rd (q.plain env).1 (bJ q (wpAny_mono h (λvs s' h'=>h'.2) λ_ _ e=>e))
 .have a1:=(p.step e1 r1).a;cases vs with
  |nil=>trivial|cons v vs=>
   cases vs with
   |cons w vs=>
    induction vs with
    |nil=>cases v<;>cases w<;>trivial
    |cons _ _=>trivial
   |nil=>
    obtain⟨z,rfl,q2⟩:=q1.fO;clear q1 e1 p q hv hd hk;cases v<;>try trivial
    rename_i l _;refine(?_:W S [] A (VR S) _ g1 sh1 (ed 8 (.ar l) s1));rw[B4];split
    .rename_i vs hvs;cases hs:iG vs with
     |none=>trivial|some rs=>exact xB (by have:=a1.units;exact ul this rfl) r1 q2 hvs hs
    .trivial
end
end
section
section
open PySem PySem.W PyProof.Rows PySem.SeqAt
structure CT where
 nm:List Str
 rC:List (Str×Nat)
 Ak:List (Str×Nat)
 Ie:List (Str×Nat)
 Ig:List Str
 FC:List Str
 Ih:List Str
 vf:List Str
 vg:List Str
 iQ:List (Str×Nat)
 fW:List Nat
 vh:List Nat
 rD:List (Nat×Str)
 mg:Bool->Sc->Stmt->Bool
noncomputable def CT.n (ct:CT) (x:Nat):Str:=ct.nm[x]?.getD ⟨#[]⟩
noncomputable abbrev vj:=Sc->Nat->List Nat->Arguments->PE->Scope->Bool
noncomputable def Lr (y:Str):Bool:=y==("__debug__":Str)
noncomputable def Mb (y:Str):Bool:=y==("__classdict__":Str)
noncomputable def gl (sc:Sc) (y:Str):Bool:=(sc.lookup y==some .globalImplicit)&& !Lr y
noncomputable def vk (sc:Sc) (y:Str):Bool:=fL (sc.lookup y)&& !Lr y&& !Mb y
noncomputable def tv:List (Option PE)->Option (List PE)
 |[]=>some []|some x::r=>(match tv r with|some l=>some (x::l)|none=>none)|none::_=>none
noncomputable def pg (ct:CT) (names:Sc) (xs:List Nat):Bool:=(RA ct.nm.length).all λx=> !(names.lookup (ct.n x)==some .local)||xs.contains x
noncomputable def lG (l:List (Str×Nat)) (y:Str) (f:Nat):Bool:=l.any λp=>p.1==y&&p.2==f
noncomputable def G8 (l:List (Nat×Str)) (m:Nat) (y:Str):Bool:=l.any λp=>p.1==m&&p.2==y
structure g9 (S:SI) (P:G) (fns:List Addr) (ct:CT) (iP:vj):Prop where
 nm:ct.nm=S.nm
 aM:S.ip
 len:S.BG P fns
 nC:P.nC=S.r9
 rC:∀y f,lG ct.rC y f=true->∃fa oc od fd osl,fns[f]?=some fa/\S.cQ y=some (.ref fa)/\S.K.lookup fa=some ⟨oc,od,.func fd,osl⟩
 Ak:∀y k,lG ct.Ak y k=true->∃ca fI cl,P.cls[k]?=some cl/\S.cls[k]?=some ca/\jb S.K ca fI=true/\fns[cl.mH]?=some fI/\S.cQ y=some (.ref ca)
 Ie:∀y b,lG ct.Ie y b=true->∃fv,ti b=some fv/\S.cQ y=some fv
 Ig:∀y,ct.Ig.contains y=true->S.cQ y=some (.builtin "sorted")
 FC:∀y,ct.FC.contains y=true->S.cQ y=some (.type "range")
 Ih:∀y,ct.Ih.contains y=true->S.cQ y=some (.type "enumerate")
 vf:∀y,ct.vf.contains y=true->S.cQ y=some (.type "KeyError")
 vg:∀y,ct.vg.contains y=true->S.cQ y=some (.type "IndexError")
 iQ:∀y x,lG ct.iQ y x=true->∀v,ao P.iQ x=some v->∃w,S.cQ y=some w/\js v w=true
 fW:∀a,ct.fW.contains a=true->S.sH P a
 vh:∀a,ct.vh.contains a=true->S.uF a
 rD:∀m nm,G8 ct.rD m nm=true->(mq m=some nm/\(∀(k:Nat) (cl:Cl),P.cls[k]?=some cl->iR cl.d8 m=none))\/(mq m=none/\S.BE P fns m nm)
 kS:∀sc k xs ps body scope,iP sc k xs ps body scope=true->∀hN n ctx pos,aF S hN n sc ctx (e.kS k xs) (.Lambda ps body scope pos)
 mg:∀hN sc st,ct.mg hN sc st=true->∀n ctx,iy S fns n ctx.call->cR ctx.call->fe S hN n sc ctx Mp.s.j8 st
section
variable{S:SI}{P:G}{fns:List Addr}{ct:CT}{iP:vj}{hN:Bool}{n:Nat}{ctx:Ctx}
noncomputable def eu (S:SI) (hN:Bool) (n:Nat) (sc:Sc) (ctx:Ctx) (t:Bool) (c:Code V) (pe:PE):Prop:=match t with
 |true=>fc S hN n sc ctx c pe|false=>aF S hN n sc ctx c pe
noncomputable def Al:PE->Bool
 |.UnaryOp .Not _ _=>false|.BoolOp .. =>false|.IfExp .. =>false|.Compare .. =>false|_=>true
set_option tactic.hygienic true in
theorem dY{sc:Sc}{t:Bool}{c:Code V}{pe:PE}(hT:S.ip)(w:aF S hN n sc ctx c pe)(hp:Al pe=true):eu S hN n sc ctx t c pe:=by
 induction t with
 |false=>exact w|true=>
  refine fc.of hT w λenv whole=>?_;clear w;cases pe<;>first|rfl|cases hp|skip
  rename_i op x pos;induction op<;>first|rfl|exact ft hp
set_option tactic.hygienic true in
theorem rF:∀ {l:List (Option PE)} {r:List PE},tv l=some r->l=r.map some
 |[],r,h=>by obtain rfl:=PD h;rfl
 |none::l,r,h=>by exact ns h
 |some x::l,r,h=>by
  unfold tv at h;split at h
  .rename_i l' hl;exact(PD h)▸congrArg _ (rF hl)
  .exact ns h
theorem jf{sc:Sc}{y:Str}(h:gl sc y=true):sc.lookup y=some .globalImplicit/\(y==("__debug__":Str))=false:=by unfold gl Lr at h;rw[QP,beq_iff_eq,Bool.not_eq_true'] at h;exact⟨h.1,h.2⟩
theorem FD{sc:Sc}{y:Str}(h:vk sc y=true):fL (sc.lookup y)=true/\(y==("__debug__":Str))=false/\(y==("__classdict__":Str))=false:=by unfold vk Lr Mb at h;simp only[QP,Bool.not_eq_true'] at h;exact j2 h.1.1 h.1.2 h.2
theorem yL(F:g9 S P fns ct iP)(x:Nat):ct.n x=S.n x:=by unfold CT.n SI.n;rw[F.nm]
theorem Am(F:g9 S P fns ct iP){names:Sc}{xs:List Nat}(h:pg ct names xs=true):∀x,x<S.nm.length->names.lookup (S.n x)=some .local->x∈xs:=λx hx hl=>by unfold pg at h;rw[Rq] at h;have:=h x (RF.mpr (F.nm▸hx));rw[yL F,hl] at this;simpa using this
theorem fR:∀(es:List E),(cW P es).length=es.length
 |[]=>by simp[cW]
 |_::es=>by simp[cW,fR es]
theorem xC{es:List E}{k:Nat}(h:es.length<=k):(cW P es).length<=k:=(fR es).symm▸h
structure Qc where
 P:G
 fns:List Addr
 ct:CT
 iP:vj
structure Cx (q:Qc) (hN:Bool) (S:SI) (n:Nat) (ctx:Ctx):Prop where
 F:g9 S q.P q.fns q.ct q.iP
 hF:hN=true->iy S q.fns n ctx.call
 hO:cR ctx.call
noncomputable abbrev Gv (q:Qc) (hN:Bool) (X:SI->Nat->Ctx->Prop):Type:=Ev (∀S n ctx,Cx q hN S n ctx->X S n ctx)
end
section
variable{q:Qc}{hN:Bool}{X Y Z U:SI->Nat->Ctx->Prop}
noncomputable def bd (c:Bool) (k:c=true->Gv q hN Z):Gv q hN Z:=(gd c).th k
noncomputable def a0 (f:∀S n ctx,Cx q hN S n ctx->Z S n ctx):Gv q hN Z:=.yes f
noncomputable def a1 (x:Gv q hN X) (f:∀S n ctx,Cx q hN S n ctx->X S n ctx->Z S n ctx):Gv q hN Z:=x.th λa=>.yes λS n ctx K=>f S n ctx K (a S n ctx K)
noncomputable def a2 (x:Gv q hN X) (y:Gv q hN Y) (f:∀S n ctx,Cx q hN S n ctx->X S n ctx->Y S n ctx->Z S n ctx):Gv q hN Z:=x.th λa=>y.th λb=>.yes λS n ctx K=>f S n ctx K (a S n ctx K) (b S n ctx K)
noncomputable def a3 (x:Gv q hN X) (y:Gv q hN Y) (u:Gv q hN U) (f:∀S n ctx,Cx q hN S n ctx->X S n ctx->Y S n ctx->U S n ctx->Z S n ctx):Gv q hN Z:=x.th λa=>y.th λb=>u.th λc=>.yes λS n ctx K=>f S n ctx K (a S n ctx K) (b S n ctx K) (c S n ctx K)
end
section
variable{q:Qc}{hN:Bool}{sc:Sc}{t:Bool}{ca cb cc:Code V}{cs ds:List (Code V)}{pe l r:PE}{pes:List PE}{pos np:Pos}{y:Str}
theorem JB{x:Nat}(h:(y==q.ct.n x&&vk sc y)=true)(S n ctx)(K:Cx q hN S n ctx):eu S hN n sc ctx t (e.vr x) (.Name y pos):=
 have k:=FD (ab h)
 dY K.F.aM (Fu ((eq_of_beq (aj h)).trans (yL K.F _)) k.1 k.2.1 k.2.2) rfl
theorem G9{x:Nat}(h:(gl sc y&&lG q.ct.iQ y x)=true)(S n ctx)(K:Cx q hN S n ctx):eu S hN n sc ctx t (e.cQ q.P x) (.Name y pos):=
 have k:=jf (aj h)
 dY K.F.aM (GN k.1 k.2 (K.F.iQ _ _ (ab h))) rfl
theorem JC{o:qF}{op}(h:decide (op=nQ o)=true)(S n ctx)(K:Cx q hN S n ctx)(wa:aF S hN n sc ctx ca l)(wb:aF S hN n sc ctx cb r):eu S hN n sc ctx t (e.dX o ca cb) (.BinOp l op r pos):=by exact(of_decide_eq_true h)▸dY K.F.aM (IW wa wb) rfl
theorem JD(S n ctx)(K:Cx q hN S n ctx)(w:eu S hN n sc ctx t ca pe):eu S hN n sc ctx t (e.not ca) (.UnaryOp .Not pe pos):=by
 induction t
 .exact IZ K.F.aM w
 .exact I0 w
theorem JE(S n ctx)(K:Cx q hN S n ctx)(w:aF S hN n sc ctx ca pe):eu S hN n sc ctx t (e.neg ca) (.UnaryOp .USub pe pos):=dY K.F.aM (I5 w) rfl
theorem JF(S n ctx)(K:Cx q hN S n ctx)(w:bM S hN n sc ctx cs pes):eu S hN n sc ctx t (e.and cs) (.BoolOp .And pes pos):=by
 induction t
 .exact I7 K.F.aM w
 .exact I8 w
theorem Mc(S n ctx)(K:Cx q hN S n ctx)(w:bM S hN n sc ctx cs pes):eu S hN n sc ctx t (e.or cs) (.BoolOp .Or pes pos):=by
 induction t
 .exact LZ K.F.aM w
 .exact L0 w
theorem JG(S n ctx)(_:Cx q hN S n ctx)(w:fc S hN n sc ctx ca pe)(w1:eu S hN n sc ctx t cb l)(w2:eu S hN n sc ctx t cc r):eu S hN n sc ctx t (e.ite ca cb cc) (.IfExp pe l r pos):=by
 induction t
 .exact I3 w w1 w2
 .exact I4 w w1 w2
theorem JH{o:AH}{op}(h:(decide (op=A3 o)&& !behindInMarks (A3 o) r)=true)(S n ctx)(_:Cx q hN S n ctx)(wa:aF S hN n sc ctx ca l)(wb:aF S hN n sc ctx cb r):eu S hN n sc ctx t (e.cmp o ca cb) (.Compare l [op] [r] pos):=by
 refine(of_decide_eq_true (aj h)).symm▸?_;induction t
 .exact I6 (iV (ab h)) wa wb
 .exact dI (iV (ab h)) wa wb
theorem Ha{P:G}{es:List E}(h:decide (es.length<=1000)=true)(S n ctx)(K:Cx q hN S n ctx)(w:bM S hN n sc ctx (cW P es) pes):eu S hN n sc ctx t (e.list (cW P es)) (.List pes pos):=dY K.F.aM (Gu w (xC (of_decide_eq_true h))) rfl
theorem JI{P:G}{es:List E}{k:Nat}(h:decide (es.length<=1000)=true)(S n ctx)(K:Cx q hN S n ctx)(w:bM S hN n sc ctx (cW P es) pes):eu S hN n sc ctx t (e.av (cW P es)) (.Tuple pes k pos):=dY K.F.aM (I9 w (xC (of_decide_eq_true h))) rfl
theorem Hb{P:G}{ks vs:List E}{ve ke:List PE}(h:(decide (ks.length=vs.length)&&(decide (0<ks.length)&&decide (ks.length<=15)))=true)(S n ctx)(K:Cx q hN S n ctx)(wk:bM S hN n sc ctx (cW P ks) ke)(wv:bM S hN n sc ctx (cW P vs) ve):
  eu S hN n sc ctx t (e.dict (j9 (cW P ks) (cW P vs))) (.Dict (ke.map some) ve pos):=
 dY K.F.aM (Gw wk wv (by simp only[fR,fR];exact of_decide_eq_true (aj h)) (λz=>by have:=of_decide_eq_true (aj (ab h));rw[<-fR (P:=P),z] at this;exact RP 0 this) (xC (of_decide_eq_true (ab (ab h))))) rfl
theorem Hc{a:Nat}{nm:Str}(h:(nm==q.ct.n a&&(q.ct.fW.contains a&&jP pe))=true)(S n ctx)(K:Cx q hN S n ctx)(w:aF S hN n sc ctx ca pe):eu S hN n sc ctx t (e.ah q.P ca a) (.Attribute pe nm pos):=
 dY K.F.aM (Gx ((eq_of_beq (aj h)).trans (yL K.F _)) (K.F.fW _ (aj (ab h))) (ab (ab h)) w) rfl
theorem JJ(h:nW r=true)(S n ctx)(K:Cx q hN S n ctx)(wa:aF S hN n sc ctx ca l)(wb:aF S hN n sc ctx cb r):eu S hN n sc ctx t (e.az ca cb) (.Subscript l r pos):=dY K.F.aM (Je h wa wb) rfl
theorem Eo{cd:Code V}{ol ou ot:Option PE}{p':Pos}(S n ctx)(K:Cx q hN S n ctx)(w:aF S hN n sc ctx ca pe/\mU S hN n sc ctx cb ol)(wu:mU S hN n sc ctx cc ou)(wt:mU S hN n sc ctx cd ot):eu S hN n sc ctx t (e.bN ca cb cc cd) (.Subscript pe (.Slice ol ou ot p') pos):=dY K.F.aM (DT w.1 w.2 wu wt) rfl
theorem Hd{f:Nat}(h:(hN&&(gl sc y&&lG q.ct.rC y f))=true)(S n ctx)(K:Cx q hN S n ctx)(w:bM S hN n sc ctx cs pes):eu S hN n sc ctx t (e.call f cs) (.Call (.Name y np) pes [] pos):=by have hh:=aj h;subst hh;have k:=jf (aj (ab h));refine AM (K.F.rC _ _ (ab (ab h))) λfa oc od fd osl e1 e2 e3=>?_;exact dY K.F.aM (GO (K.hF rfl) K.hO e1 k.1 k.2 e2 e3 w) rfl
theorem JK{f:Nat}(h:(hN&&(gl sc y&&lG q.ct.Ak y f))=true)(S n ctx)(K:Cx q hN S n ctx)(w:bM S hN n sc ctx cs pes):eu S hN n sc ctx t (e.new q.P f cs) (.Call (.Name y np) pes [] pos):=by have hh:=aj h;subst hh;have k:=jf (aj (ab h));refine fZ (K.F.Ak _ _ (ab (ab h))) λca fI cl e1 e2 e3 e4 e5=>?_;exact dY K.F.aM (Jr (K.hF rfl) K.hO e1 e2 e3 e4 k.1 k.2 e5 w) rfl
theorem yM{b:Nat}(h:(hN&&(gl sc y&&lG q.ct.Ie y b))=true)(S n ctx)(K:Cx q hN S n ctx)(w:bM S hN n sc ctx cs pes):eu S hN n sc ctx t (e.aS q.P b cs) (.Call (.Name y np) pes [] pos):=by have hh:=aj h;subst hh;have k:=jf (aj (ab h));refine aa (K.F.Ie _ _ (ab (ab h))) λfv e1 e2=>?_;exact dY K.F.aM (Eb (K.hF rfl) K.hO K.F.len e1 k.1 k.2 e2 w) rfl
theorem B6{b:Nat}(h:(hN&&(b==8&&(gl sc y&&q.ct.Ig.contains y)))=true)(S n ctx)(K:Cx q hN S n ctx)(w:bM S hN n sc ctx [ca] [pe]):eu S hN n sc ctx t (e.aS q.P b [ca]) (.Call (.Name y np) [pe] [] pos):=by have hh:=aj h;subst hh;have hb:=eq_of_beq (aj (ab h));subst hb;have k:=jf (aj (ab (ab h)));exact dY K.F.aM (B5 k.1 k.2 (K.F.Ig _ (ab (ab (ab h)))) w) rfl
theorem He{m:Nat}{nm:Str}{ap:Pos}(h:(hN&&(G8 q.ct.rD m nm&&(jP pe&&((ap.endLine==pos.line)&&decide (pes.length<30)))))=true)(S n ctx)(K:Cx q hN S n ctx)(w:aF S hN n sc ctx ca pe)(ws:bM S hN n sc ctx cs pes):
  eu S hN n sc ctx t (e.aH q.P ca m cs) (.Call (.Attribute pe nm ap) pes [] pos):=by
 have hh:=aj h;subst hh;exact dY K.F.aM (GU (K.hF rfl) K.hO (K.F.rD _ _ (aj (ab h))) (aj (ab (ab h))) (aj (ab (ab (ab h)))) (of_decide_eq_true (r4 h)) w ws) rfl
theorem Ep{x:Nat}(h:(hN&&(y==q.ct.n x&&vk sc y))=true)(S n ctx)(K:Cx q hN S n ctx)(w:bM S hN n sc ctx cs pes):eu S hN n sc ctx t (e.j6 q.P x cs) (.Call (.Name y np) pes [] pos):=by have hh:=aj h;subst hh;have k:=FD (ab (ab h));exact dY K.F.aM (Em (K.hF rfl) K.hO K.F.nC ((eq_of_beq (aj (ab h))).trans (yL K.F _)) k.1 k.2.1 k.2.2 w) rfl
theorem Hf(h:decide (2<=pes.length)=true)(S n ctx)(K:Cx q hN S n ctx)(w:oZ S hN n sc ctx cs pes):eu S hN n sc ctx t (e.rY cs) (.JoinedStr pes pos):=by
 have hl:=of_decide_eq_true h;clear h;induction w with
 |nil=>exact absurd hl (by decide)|cons w1 w=>induction w with
  |nil=>exact absurd hl (by simp)|cons w2 w=>exact dY K.F.aM (GY (.cons w1 (.cons w2 w))) rfl
structure yN (S:SI) (hN:Bool) (n:Nat) (sc:Sc) (ctx:Ctx) (ci:Code It) (is:List (Code V)) (xs:List Nat) (te ie:PE) (ifsE:List PE) (scope:Scope):Prop where
 h1:i8 ie=true
 wj:tm S hN n sc ctx ci ie
 fl:∀lo s it s',ci ctx lo s=.ok it s'->it.eB=true
 co:iA sc scope
 lo:∀x,x<S.nm.length->scope.names.lookup (S.n x)=some .local->x∈xs
 ct:g8 S scope.names xs te
 wt:gz S hN n scope.names ctx is ifsE
noncomputable abbrev Md (S:SI) (hN:Bool) (n:Nat) (sc:Sc) (ctx:Ctx) (ci:Code It) (pe:PE):Prop:=tm S hN n sc ctx ci pe/\∀lo s it s',ci ctx lo s=.ok it s'->it.eB=true
theorem tw{ci:Code It}{is:List (Code V)}{xs:List Nat}{te ie:PE}{ifsE:List PE}{scope:Scope}(h:(i8 ie&&(tj sc scope&&pg q.ct scope.names xs))=true)(S n ctx)(K:Cx q hN S n ctx)(wj:Md S hN n sc ctx ci ie)(wt:gz S hN n scope.names ctx is ifsE)(wc:g8 S scope.names xs te):yN S hN n sc ctx ci is xs te ie ifsE scope:=
 ⟨aj h,wj.1,wj.2,xt (aj (ab h)),Am K.F (ab (ab h)),wc,wt⟩
theorem Hg{ci:Code It}{is:List (Code V)}{xs:List Nat}{te ie elt:PE}{ifsE:List PE}{scope:Scope}(h:hN=true)(S n ctx)(K:Cx q hN S n ctx)(c:yN S hN n sc ctx ci is xs te ie ifsE scope)(w:aF S hN n scope.names ctx ca elt):eu S hN n sc ctx t (e.comp ca xs ci is) (.ListComp elt [⟨te,ie,ifsE,0⟩] scope pos):=by subst h;exact dY K.F.aM (GZ c.h1 c.wj c.fl c.co c.lo c.ct c.wt w) rfl
theorem Er{ci:Code It}{is:List (Code V)}{xs:List Nat}{te ie kx vx:PE}{ifsE:List PE}{scope:Scope}(h:hN=true)(S n ctx)(K:Cx q hN S n ctx)(c:yN S hN n sc ctx ci is xs te ie ifsE scope)(w:aF S hN n scope.names ctx ca kx)(w2:aF S hN n scope.names ctx cb vx):eu S hN n sc ctx t (e.lT ca cb xs ci is) (.DictComp kx vx [⟨te,ie,ifsE,0⟩] scope pos):=by subst h;exact dY K.F.aM (Ei c.h1 c.wj c.fl c.co c.lo c.ct c.wt w w2) rfl
theorem yO{P:G}{es:List E}(h:(gl sc y&&q.ct.FC.contains y)=true)(S n ctx)(K:Cx q hN S n ctx)(w:bM S hN n sc ctx (cW P es) pes):Md S hN n sc ctx (j5 1 (cW P es)) (.Call (.Name y np) pes [] pos):=
 have k:=jf (aj h)
 ⟨Eh k.1 k.2 (K.F.FC _ (ab h)) w,λzz zz zz zz=>pd⟩
end
section
variable(q:Qc)(hN:Bool)
noncomputable def cT (sc:Sc) (xs:List Nat) (te:PE):Gv q hN λS zz zz=>g8 S sc xs te:=match te with
 |.Name y _=>(match xs with
  |[x]=>bd (y==q.ct.n x&&(decide (x<q.ct.nm.length)&&sc.lookup y==some .local)) λh=>a0 λzz zz zz K=>.fU ((eq_of_beq (aj h)).trans (yL K.F _)) (K.F.nm▸of_decide_eq_true (aj (ab h))) (eq_of_beq (ab (ab h)))|_=>.no)
 |.Tuple [.Name y1 _,.Name y2 _] _ _=>(match xs with
  |[x1,x2]=>bd (y1==q.ct.n x1&&(decide (x1<q.ct.nm.length)&&sc.lookup y1==some .local)) λh=>bd (y2==q.ct.n x2&&(decide (x2<q.ct.nm.length)&&sc.lookup y2==some .local)) λh2=>a0 λzz zz zz K=>
    .wY ((eq_of_beq (aj h)).trans (yL K.F _)) (K.F.nm▸of_decide_eq_true (aj (ab h))) (eq_of_beq (ab (ab h))) ((eq_of_beq (aj h2)).trans (yL K.F _)) (K.F.nm▸of_decide_eq_true (aj (ab h2))) (eq_of_beq (ab (ab h2)))
  |_=>.no)
 |_=>.no
noncomputable def cO {sc:Sc} (x:E) (f:∀pe,Gv q hN λS n ctx=>aF S hN n sc ctx (dE q.P x) pe):(o:Option PE)->Gv q hN λS n ctx=>mU S hN n sc ctx (dE q.P x) o
 |some pe=>a1 (f pe) λzz zz zz zz w=>Bh w|none=>match x with
  |.none=>a0 λzz zz zz zz=>wK|_=>.no
mutual
noncomputable def fD (sc:Sc) (t:Bool):(x:E)->(pe:PE)->Gv q hN λS n ctx=>eu S hN n sc ctx t (dE q.P x) pe
 |.none,pe=>(match pe with|.Constant .none _ _=>a0 λzz zz zz K=>dY K.F.aM Gn rfl|_=>.no)|.bool b,pe=>(match pe with|.Constant (.bool c) _ _=>bd (b==c) λh=>a0 λzz zz zz K=>by rw[<-eq_of_beq h];exact dY K.F.aM Gq rfl|_=>.no)|.int i,pe=>(match pe with|.Constant (.int j) _ _=>bd (i==j) λh=>a0 λzz zz zz K=>by rw[<-eq_of_beq h];exact dY K.F.aM IT rfl|_=>.no)|.str x,pe=>(match pe with|.Constant (.str y) _ _=>bd (ak x==y) λh=>a0 λzz zz zz K=>by rw[<-eq_of_beq h];exact dY K.F.aM IU rfl|_=>.no)|.vr x,pe=>(match pe with|.Name y _=>bd _ λh=>a0 (JB h)|_=>.no)|.cQ x,pe=>(match pe with|.Name y _=>bd _ λh=>a0 (G9 h)|_=>.no)|.dX o a b,pe=>(match pe with|.BinOp l op r _=>bd _ λh=>a2 (fD sc false a l) (fD sc false b r) (JC h)|_=>.no)|.not a,pe=>(match pe with|.UnaryOp .Not x _=>a1 (fD sc t a x) JD|_=>.no)|.neg a,pe=>(match pe with|.UnaryOp .USub x _=>a1 (fD sc false a x) JE|_=>.no)|.and es,pe=>(match pe with|.BoolOp .And pes _=>a1 (jg sc es pes) JF|_=>.no)|.or es,pe=>(match pe with|.BoolOp .Or pes _=>a1 (jg sc es pes) Mc|_=>.no)|.ite c a b,pe=>(match pe with|.IfExp x y z _=>a3 (fD sc true c x) (fD sc t a y) (fD sc t b z) JG|_=>.no)|.cmp o a b,pe=>(match pe with|.Compare l [op] [r] _=>bd _ λh=>a2 (fD sc false a l) (fD sc false b r) (JH h)|_=>.no)|.list es,pe=>(match pe with|.List pes _=>bd _ λh=>a1 (jg sc es pes) (Ha h)|_=>.no)|.av es,pe=>(match pe with|.Tuple pes _ _=>bd _ λh=>a1 (jg sc es pes) (JI h)|_=>.no)|.dict ks vs,pe=>(match pe with
  |.Dict ke ve _=>(match ks,vs,ke,ve with
   |[],[],[],[]=>a0 λzz zz zz K=>dY K.F.aM DS rfl|ks,vs,ke,ve=>(match hk:tv ke with
    |some ke'=>bd _ λh=>a2 (jg sc ks ke') (jg sc vs ve) λS n ctx K w1 w2=>rF hk▸Hb h S n ctx K w1 w2|none=>.no))
  |_=>.no)
 |.ah x a,pe=>(match pe with|.Attribute b nm _=>bd _ λh=>a1 (fD sc false x b) (Hc h)|_=>.no)|.az x i,pe=>(match pe with|.Subscript b ix _=>bd _ λh=>a2 (fD sc false x b) (fD sc false i ix) (JJ h)|_=>.no)|.bN x a b c,pe=>(match pe with
  |.Subscript base (.Slice l u st _) _=>a3 (a2 (fD sc false x base) (cO q hN a (fD sc false a) l) λzz zz zz zz w1 w2=>⟨w1,w2⟩) (cO q hN b (fD sc false b) u) (cO q hN c (fD sc false c) st) Eo|_=>.no)
 |.call f es,pe=>(match pe with|.Call (.Name y _) pes [] _=>bd _ λh=>a1 (jg sc es pes) (Hd h)|_=>.no)|.new k es,pe=>(match pe with|.Call (.Name y _) pes [] _=>bd _ λh=>a1 (jg sc es pes) (JK h)|_=>.no)|.aS b es,pe=>(match pe with
  |.Call (.Name y _) pes [] _=>(match es,pes with
   |[x],[p1]=>(match b==8 with
    |true=>bd _ λh=>a1 (jg sc [x] [p1]) (B6 h)|false=>bd _ λh=>a1 (jg sc [x] [p1]) (yM h))
   |es,pes=>bd _ λh=>a1 (jg sc es pes) (yM h))
  |_=>.no)
 |.aH x m es,pe=>(match pe with|.Call (.Attribute o nm ap) pes [] pos=>bd _ λh=>a2 (fD sc false x o) (jg sc es pes) (He h)|_=>.no)|.j6 x es,pe=>(match pe with|.Call (.Name y _) pes [] _=>bd _ λh=>a1 (jg sc es pes) (Ep h)|_=>.no)|.kS k xs,pe=>(match pe with|.Lambda ps body scope _=>bd (q.iP sc k xs ps body scope) λh=>a0 λzz zz zz K=>dY K.F.aM (K.F.kS _ _ _ _ _ _ h _ _ _ _) rfl|_=>.no)|.rY es,pe=>(match pe with|.JoinedStr parts _=>bd _ λh=>a1 (B7 sc es parts) (Hf h)|_=>.no)|.comp x xs k it ifs,pe=>(match pe with
  |.ListComp elt [⟨te,ie,ifsE,0⟩] scope _=>bd hN λhh=>bd _ λh=>a2 (a3 (Hh sc k it ie) (yP scope.names ifs ifsE) (cT q hN scope.names xs te) (tw h)) (fD scope.names false x elt) (Hg hh)|_=>.no)
 |.lT x y xs k it ifs,pe=>(match pe with
  |.DictComp kx vx [⟨te,ie,ifsE,0⟩] scope _=>bd hN λhh=>bd _ λh=>a3 (a3 (Hh sc k it ie) (yP scope.names ifs ifsE) (cT q hN scope.names xs te) (tw h)) (fD scope.names false x kx) (fD scope.names false y vx) (Er hh)|_=>.no)
noncomputable def jg (sc:Sc):(es:List E)->(pes:List PE)->Gv q hN λS n ctx=>bM S hN n sc ctx (cW q.P es) pes
 |[],pes=>(match pes with|[]=>a0 λzz zz zz zz=>.nil|_=>.no)|e::es,pes=>(match pes with|pe::pes=>bd (di pe) λh=>a3 (fD sc false e pe) (fD sc true e pe) (jg sc es pes) λzz zz zz zz w1 w2 w3=>.cons w1 w2 h w3|[]=>.no)
noncomputable def yP (sc:Sc):(es:List E)->(pes:List PE)->Gv q hN λS n ctx=>gz S hN n sc ctx (cW q.P es) pes
 |[],pes=>(match pes with|[]=>a0 λzz zz zz zz=>.nil|_=>.no)|e::es,pes=>(match pes with|pe::pes=>a2 (fD sc true e pe) (yP sc es pes) λzz zz zz zz w1 w2=>.cons w1 w2|[]=>.no)
noncomputable def B7 (sc:Sc):(es:List E)->(pes:List PE)->Gv q hN λS n ctx=>oZ S hN n sc ctx (cW q.P es) pes
 |[],pes=>(match pes with|[]=>a0 λzz zz zz zz=>.nil|_=>.no)|e::es,pes=>(match pes with
  |.FormattedValue pe 115 none _::pes=>a2 (fD sc false e pe) (B7 sc es pes) λzz zz zz zz w1 w2=>.cons (Jq w1) w2|.Constant (.str y) _ _::pes=>(match e with
   |.str x=>bd (ak x==y) λh=>a1 (B7 sc es pes) λzz zz zz zz w2=>.cons (by rw[<-eq_of_beq h];exact Jp) w2|_=>.no)
  |_=>.no)
noncomputable def Hh (sc:Sc) (k:Nat):(es:List E)->(pe:PE)->Gv q hN λS n ctx=>Md S hN n sc ctx (j5 k (cW q.P es)) pe
 |[],pe=>(match k,pe with|1,.Call (.Name y _) [] [] _=>bd _ λh=>a0 λS n ctx K=>yO (es:=[]) h S n ctx K .nil|_,_=>.no)|e::es,pe=>(match k with
  |0=>(match es with
   |[]=>a1 (fD sc false e pe) λzz zz zz zz w=>⟨Ju w,λzz zz zz zz=>uU⟩|_=>.no)
  |1=>(match pe with|.Call (.Name y _) (pe::pes) [] _=>bd _ λh=>bd (di pe) λh2=>a3 (fD sc false e pe) (fD sc true e pe) (jg sc es pes) λS n ctx K w1 w2 w3=>yO (es:=e::es) h S n ctx K (.cons w1 w2 h2 w3)|_=>.no)|_=>.no)
end
end
open Sem (wp)
noncomputable def B8:PE->Bool
 |.Tuple .. =>true|_=>false
noncomputable def tx:PE->Bool
 |.Tuple .. =>true|.List .. =>true|_=>false
theorem Es{te pe:PE}(h:tx te=false)(env:PM):swappedStores [te] pe env=P2 none:=by
 cases te
 case Tuple=>exact tf h
 case List=>exact tf h
 all_goals rfl
theorem Et{te pe:PE}(h0:tx te=true)(h:B8 pe=false)(env:PM):swappedStores [te] pe env=P2 none:=by
 cases te
 case Tuple=>cases pe<;>first|rfl|exact Qu h
 case List=>cases pe<;>first|rfl|exact Qu h
 all_goals exact Qu h0
noncomputable def ph (te pe:PE):Bool:=bif tx te then !B8 pe else true
theorem lH{te pe:PE}(h:ph te pe=true)(env:PM):swappedStores [te] pe env=P2 none:=by
 unfold ph at h;refine cy (tx te) (λz=>?_) λz=>?_
 .exact Es z env
 .replace h:=z▸h;exact Et z (iV h) env
noncomputable def rG:PE->Bool
 |.ListComp .. =>true|.DictComp .. =>true|_=>false
section
variable{S:SI}{n:Nat}{sc:Sc}{ctx:Ctx}{hN:Bool}
theorem An{t:TC}{c:Code V}{te pe:PE}{pos:Pos}(hc:∀(env:PM) (l:Nat),Gm sc env->swapsWith pe (some te) l env=P2 false)(hsw:∀env,swappedStores [te] pe env=P2 none)(hs:di te=true)(wt:nZ S hN n sc ctx t te)(w:aF S hN n sc ctx c pe):fe S hN n sc ctx (Mp.s.aq t c) (.Assign [te] pe pos):=λA g s sh lo env p=>by
 show W S (FX env) A (VS S env) (standAt pos>>=λzz=>swapsWith pe (some te) pos.line env>>=λb=>if b then(do evalThenUse pe env λv=>assignAll v ((assignEach [te] env).map (·.2));P2 .next) else(eval pe env>>=λv=>swappedStores [te] pe env>>=λsw=>assignStores env v sw ((assignEach [te] env).map (·.2)))) g sh
  ((c ctx lo s).bind λv s=>(t v ctx lo s).bind λlo s=>.ok (.next,lo) s)
 refine W.aT ?_;rw[hc env _ p.sc,hsw];refine W.rule (t:=eval pe env>>=λv=>assign te env v>>=λzz=>P2 .next) ?_ λQ Ex k=>wpAny_bind (wpAny_pure ?_)
 .refine w.yA p λv s1 g1 sh1 x e1 p1 q1=>?_;refine W.bind (wt A g1 s1 sh1 lo env v x p1 q1) λlo' s2 g2 sh2 zz zz e2 r2 af=>?_;exact W.pure r2 ⟨.next,af⟩
 .rw[cL hs];exact k
theorem Ao{yn:Str}{np:Pos}{pe:PE}(h:(sc.lookup yn==some .cell&&rG pe)=true)(env:PM)(l:Nat)(hs:Gm sc env):swapsWith pe (some (.Name yn np)) l env=P2 false:=by
 have h1:=eq_of_beq (aj h);have h2:=ab h;have k1:=((hs yn).2.2 (congrArg _ h1)).1;simp only[h1] at k1;have f:(env.kindOf yn==some NameKind.local)=false:=by rw[k1];rfl
 clear h;cases pe
 case ListComp=>unfold swapsWith;simp only[pure_bind];simp only[f,Bool.and_false,Bool.false_and,Bool.false_and]
 case DictComp=>unfold swapsWith;simp only[pure_bind];simp only[f,Bool.and_false,Bool.false_and,Bool.false_and]
 all_goals exact Qu h2
end
section
variable{q:Qc}{hN:Bool}{sc:Sc}{S:SI}{n:Nat}{ctx:Ctx}{pe te:PE}{pes:List PE}{pos np:Pos}{y:Str}{ca cb:Code V}{cs:List (Code V)}
noncomputable abbrev JL (S:SI) (hN:Bool) (n:Nat) (sc:Sc) (ctx:Ctx) (ci:Code It) (te pe:PE):Prop:=zR S hN n sc ctx ci pe/\(fN te=true\/∀c lo s it s',ci c lo s=.ok it s'->it.eB=true)
theorem O9(h:(gl sc y&&q.ct.FC.contains y)=true)(S n ctx)(K:Cx q hN S n ctx)(w:bM S hN n sc ctx cs pes):JL S hN n sc ctx (j5 1 cs) te (.Call (.Name y np) pes [] pos):=
 have k:=jf (aj h)
 ⟨Ee k.1 k.2 (K.F.FC _ (ab h)) w,.inr λzz zz zz zz zz=>pd⟩
theorem Pa(h:(fN te&&(gl sc y&&q.ct.Ih.contains y))=true)(S n ctx)(K:Cx q hN S n ctx)(w:bM S hN n sc ctx cs pes):JL S hN n sc ctx (j5 2 cs) te (.Call (.Name y np) pes [] pos):=
 have k:=jf (aj (ab h))
 ⟨GW k.1 k.2 (K.F.Ih _ (ab (ab h))) w,.inl (aj h)⟩
theorem Pb{nm:Str}{ap:Pos}(h:(fN te&&(nm==("items":Str)&&(jP pe&&(ap.endLine==pos.line))))=true)(S n ctx)(_:Cx q hN S n ctx)(w:aF S hN n sc ctx ca pe):JL S hN n sc ctx (j5 3 [ca]) te (.Call (.Attribute pe nm ap) [] [] pos):=by exact(eq_of_beq (aj (ab h)))▸⟨Ef (aj (ab (ab h))) (ab (ab (ab h))) w,.inl (aj h)⟩
theorem Hi{a:Nat}{nm:Str}(h:(nm==q.ct.n a&&q.ct.vh.contains a)=true)(S n ctx)(K:Cx q hN S n ctx)(w:aF S hN n sc ctx ca pe):l7 S hN n sc ctx (t.ah ca a) (.Attribute pe nm pos):=
 GC ((eq_of_beq (aj h)).trans (yL K.F _)) (K.F.vh _ (ab h)) w
theorem JM{tc:TC}(h:(i7 pe&&(ph te pe&&di te))=true)(S n ctx)(_:Cx q hN S n ctx)(w:l7 S hN n sc ctx tc te)(w2:aF S hN n sc ctx ca pe):iN S hN n sc ctx (Mp.s.aq tc ca) (.Assign [te] pe pos):=
 zO (aj h) (lH (aj (ab h))) (ab (ab h)) w w2
theorem JN{tc:TC}(h:(i7 pe&&(ph te pe&&di te))=true)(S n ctx)(_:Cx q hN S n ctx)(w:nZ S hN n sc ctx tc te)(w2:aF S hN n sc ctx ca pe):fe S hN n sc ctx (Mp.s.aq tc ca) (.Assign [te] pe pos):=
 Bj (aj h) (lH (aj (ab h))) (ab (ab h)) w w2
theorem Hj{tc:TC}{yn:Str}(h:((sc.lookup yn==some .cell&&rG pe)&&(ph (.Name yn np) pe&&di (.Name yn np)))=true)(S n ctx)(_:Cx q hN S n ctx)(w:nZ S hN n sc ctx tc (.Name yn np))(w2:aF S hN n sc ctx ca pe):fe S hN n sc ctx (Mp.s.aq tc ca) (.Assign [.Name yn np] pe pos):=
 An (Ao (aj h)) (lH (aj (ab h))) (ab (ab h)) w w2
theorem Hk{x:Nat}{yn:Str}{ci:Code It}{is:List (Code V)}{xs:List Nat}{te ie elt:PE}{ifsE:List PE}{scope:Scope}{cp:Pos}
  (h:(yn==q.ct.n x&&(decide (x<q.ct.nm.length)&&(sc.lookup yn==some .local&&(np.line==cp.line&& !(scope.names.any λp=>p.1==yn&&(p.2==.local||p.2==.cell))))))=true) (hh:hN=true) (S n ctx) (K:Cx q hN S n ctx) (c:yN S hN n sc ctx ci is xs te ie ifsE scope) (w:aF S hN n scope.names ctx ca elt):
  fe S hN n sc ctx (Mp.s.aq (t.vr x) (e.comp ca xs ci is)) (.Assign [.Name yn np] (.ListComp elt [⟨te,ie,ifsE,0⟩] scope cp) pos):=by
 subst hh;have h5:=iV (r4 h);refine Ah ((eq_of_beq (aj h)).trans (yL K.F _)) (K.F.nm▸of_decide_eq_true (aj (ab h))) (eq_of_beq (aj (ab (ab h)))) (λenv e1 e2=>?_) c.h1 c.wj c.fl c.co c.lo c.ct c.wt w;have hb:env.blockKind=.function:=by unfold PM.blockKind;refine e1.symm▸?_;rfl
 show P2 (env.blockKind==.function&&env.kindOf yn==some .local&&np.line==cp.line&& !(scope.names.any λp=>p.1==yn&&(p.2==.local||p.2==.cell)))=P2 true;rw[hb,e2,aj (ab (ab (ab h))),h5];rfl
theorem Hl{x:Nat}{o:qF}{op}(h:(decide (op=nQ o)&&(y==q.ct.n x&&(decide (x<q.ct.nm.length)&&(zF (sc.lookup y)&&(fL (sc.lookup y)&& !Mb y)))))=true)(S n ctx)(K:Cx q hN S n ctx)(w:aF S hN n sc ctx ca pe):fe S hN n sc ctx (Mp.s.j7 x o ca) (.AugAssign (.Name y np) op pe pos):=by refine(of_decide_eq_true (aj h)).symm▸?_;exact GJ ((eq_of_beq (aj (ab h))).trans (yL K.F _)) (K.F.nm▸of_decide_eq_true (aj (ab (ab h)))) (aj (ab (ab (ab h)))) (aj (r4 h)) (iV (r4 (ab h))) w
theorem Hm{a:Nat}{o:qF}{op}{nm:Str}{oe:PE}(h:(decide (op=nQ o)&&(nm==q.ct.n a&&(q.ct.fW.contains a&&q.ct.vh.contains a)))=true)(S n ctx)(K:Cx q hN S n ctx)(w:aF S hN n sc ctx ca oe)(w2:aF S hN n sc ctx cb pe):fe S hN n sc ctx (Mp.s.kT q.P ca a o cb) (.AugAssign (.Attribute oe nm np) op pe pos):=by exact(of_decide_eq_true (aj h))▸(GK ((eq_of_beq (aj (ab h))).trans (yL K.F _)) (K.F.fW _ (aj (ab (ab h)))) (K.F.vh _ (ab (ab (ab h)))) w w2).Dm
theorem JO{k:Nat}{np:Pos}(h:(gl sc y&&((k==1&&q.ct.vf.contains y)||(k==2&&q.ct.vg.contains y)))=true)(S n ctx)(K:Cx q hN S n ctx):je S sc [k] (.Name y np):=by
 have k1:=jf (aj h);rcases Bool.or_eq_true_iff.mp (ab h) with h1|h1<;>refine(eq_of_beq (aj h1)).symm▸?_
 .exact .fU (.inl rfl) k1.1 (K.F.vf _ (ab h1)) k1.2
 .exact .fU (.inr rfl) k1.1 (K.F.vg _ (ab h1)) k1.2
theorem JP{y z:Str}{p1 p2 pos:Pos}{m:Nat}(h:((gl sc y&&q.ct.vg.contains y)&&(gl sc z&&q.ct.vf.contains z))=true)(S n ctx)(K:Cx q hN S n ctx):je S sc [2,1] (.Tuple [.Name y p1,.Name z p2] m pos):=
 have a:=jf (aj (aj h));have b:=jf (aj (ab h))
 .wY a.1 (K.F.vg _ (ab (aj h))) a.2 b.1 (K.F.vf _ (ab (ab h))) b.2
end
section
variable(q:Qc)(hN:Bool)
noncomputable def Me (sc:Sc) (k:Nat) (es:List E) (te pe:PE):Gv q hN λS n ctx=>JL S hN n sc ctx (j5 k (cW q.P es)) te pe:=match k with
 |0=>(match es with|[e]=>bd (i8 pe) λh=>a1 (fD q hN sc false e pe) λzz zz zz zz w=>⟨mh h w,.inr λzz zz zz zz zz=>uU⟩|_=>.no)|1=>(match pe with|.Call (.Name y _) pes [] _=>bd _ λh=>a1 (jg q hN sc es pes) (O9 h)|_=>.no)|2=>(match pe with|.Call (.Name y _) pes [] _=>bd _ λh=>a1 (jg q hN sc es pes) (Pa h)|_=>.no)|3=>(match es with|[e]=>(match pe with|.Call (.Attribute o nm ap) [] [] pos=>bd _ λh=>a1 (fD q hN sc false e o) (Pb h)|_=>.no)|_=>.no)|_=>.no
noncomputable def B9 (sc:Sc) (x:T) (pe:PE):Gv q hN λS n ctx=>l7 S hN n sc ctx (dT q.P x) pe:=match x with
 |.ah x a=>(match pe with|.Attribute b nm _=>bd _ λh=>a1 (fD q hN sc false x b) (Hi h)|_=>.no)|.az x i=>(match pe with|.Subscript b ix _=>a2 (fD q hN sc false x b) (fD q hN sc false i ix) λzz zz zz zz w1 w2=>Jf w1 w2|_=>.no)|_=>.no
mutual
noncomputable def Eu (sc:Sc):(x:T)->(pe:PE)->Gv q hN λS n ctx=>nZ S hN n sc ctx (dT q.P x) pe
 |.vr x,pe=>(match pe with|.Name y _=>bd (y==q.ct.n x&&(decide (x<q.ct.nm.length)&&zF (sc.lookup y))) λh=>a0 λzz zz zz K=>Jg ((eq_of_beq (aj h)).trans (yL K.F _)) (K.F.nm▸of_decide_eq_true (aj (ab h))) (ab (ab h))|_=>.no)|.ah x a,pe=>a1 (B9 q hN sc (.ah x a) pe) λzz zz zz zz w=>w.M7|.az x i,pe=>a1 (B9 q hN sc (.az x i) pe) λzz zz zz zz w=>w.M7|.av ts,pe=>(match pe with|.Tuple pes _ _=>bd hN λh=>a1 (FE sc ts pes) λzz zz zz zz w=>by subst h;exact Ji w|_=>.no)
noncomputable def FE (sc:Sc):(ts:List T)->(pes:List PE)->Gv q hN λS n ctx=>md S hN n sc ctx (Lj q.P ts) pes
 |[],pes=>(match pes with|[]=>a0 λzz zz zz zz=>.nil|_=>.no)|t::ts,pes=>(match pes with|pe::pes=>bd (di pe) λh=>a2 (Eu sc t pe) (FE sc ts pes) λzz zz zz zz w1 w2=>.cons w1 h w2|[]=>.no)
end
noncomputable def Mf (sc:Sc) (x:Mp.S) (st:Stmt):Gv q hN λS n ctx=>iN S hN n sc ctx (dS q.P x) st:=match x with
 |.expr x=>(match st with|.Expr pe _=>bd (i7 pe) λh=>a1 (fD q hN sc false x pe) λzz zz zz zz w=>Bi h w|_=>.no)|.aq t x=>(match st with|.Assign [te] pe _=>bd _ λh=>a2 (B9 q hN sc t te) (fD q hN sc false x pe) (JM h)|_=>.no)|_=>.no
noncomputable def cC (sc:Sc) (ks:List Nat) (te:PE):Gv q hN λS zz zz=>je S sc ks te:=match te with
 |.Name y _=>(match ks with|[k]=>bd _ λh=>a0 (JO h)|_=>.no)|.Tuple [.Name y _,.Name z _] _ _=>(match ks with|[2,1]=>bd _ λh=>a0 (JP h)|_=>.no)|_=>.no
noncomputable def Mg (sc:Sc) (t:T) (x:E) (te pe:PE) (pos:Pos):Gv q hN λS n ctx=>fe S hN n sc ctx (Mp.s.aq (dT q.P t) (dE q.P x)) (.Assign [te] pe pos):=match x with
 |.comp x xs k it ifs=>(match t with
  |.vr y=>(match te with
   |.Name yn np=>(match pe with
    |.ListComp elt [⟨te,ie,ifsE,0⟩] scope cp=>bd hN λhh=>bd _ λh=>bd _ λh2=>a2 (a3 (Hh q hN sc k it ie) (yP q hN scope.names ifs ifsE) (cT q hN scope.names xs te) (tw h)) (fD q hN scope.names false x elt) (Hk h2 hh)|_=>.no)
   |_=>.no)
  |_=>.no)
 |_=>.no
noncomputable def yQ {P:Prop} (x y:Ev P):Ev P:=@Ev.rec P (λzz=>Ev P) y (λh=>.yes h) x
noncomputable def Mh (sc:Sc) (t:T) (x:E) (te pe:PE) (pos:Pos):Gv q hN λS n ctx=>fe S hN n sc ctx (Mp.s.aq (dT q.P t) (dE q.P x)) (.Assign [te] pe pos):=match te with
 |.Name yn np=>bd _ λh=>a2 (Eu q hN sc t (.Name yn np)) (fD q hN sc false x pe) (Hj h)|_=>.no
end
section
variable{q:Qc}
theorem JQ{hN:Bool}{sc:Sc}{ca:Code V}{pe:PE}{pos:Pos}(S n ctx)(_:Cx q hN S n ctx)(w:aF S hN n sc ctx ca pe):fe S hN n sc ctx (Mp.s.ret ca) (.Return (some pe) pos):=(Jk w).Dm
theorem Ew{hN:Bool}{sc:Sc}{ca:Code V}{b o:SC}{te:PE}{be oe:List Stmt}{pos:Pos}(h:hN=true)(S n ctx)(_:Cx q hN S n ctx)(w:fc S hN n sc ctx ca te)(w1:iM S hN n sc ctx b be)(w2:iM S hN n sc ctx o oe):fe S hN n sc ctx (Mp.s.bP ca b o) (.While te be oe pos):=by subst h;exact DV w w1 w2
theorem JR{hN:Bool}{sc:Sc}{ci:Code It}{tc:TC}{b o:SC}{te ie:PE}{be oe:List Stmt}{pos:Pos}(h:hN=true)(S n ctx)(_:Cx q hN S n ctx)(w:JL S hN n sc ctx ci te ie/\nZ S hN n sc ctx tc te)(w1:iM S hN n sc ctx b be)(w2:iM S hN n sc ctx o oe):fe S hN n sc ctx (Mp.s.ba tc ci b o) (.For te ie be oe pos):=by subst h;exact Jn w.1.2 w.1.1 w.2 w1 w2
theorem JS{hN:Bool}{sc:Sc}{ks:List Nat}{cb:SC}{hb:SC}{te:PE}{c b0:Stmt}{suite:List Stmt}{p1 p2:Pos}(h:hN=true)(S n ctx)(_:Cx q hN S n ctx)(w:je S sc ks te)(w1:iN S hN n sc ctx cb c)(w2:iM S false n sc ctx hb (b0::suite)):fe S hN n sc ctx (Mp.s.pX (block [cb]) ks hb) (.Try [c] [.ExceptHandler (some te) none (b0::suite) p1] [] [] p2):=by subst h;exact Jx w w1 w2
noncomputable def dn {hN:Bool} {X:SI->Nat->Ctx->Prop} (x:Gv q false X):Gv q hN X:=x.th λa=>.yes λS n ctx K=>a S n ctx ⟨K.F,λh=>(nomatch h),K.hO⟩
end
section
variable(q:Qc)
mutual
noncomputable def JT (hN:Bool) (sc:Sc):(x:Mp.S)->(st:Stmt)->Gv q hN λS n ctx=>fe S hN n sc ctx (dS q.P x) st
 |.expr x,st=>(match st with|.Expr pe _=>bd (i7 pe) λh=>a1 (fD q hN sc false x pe) λzz zz zz zz w=>(Bi h w).Dm|_=>.no)|.aq t x,st=>(match st with
  |.Assign [te] pe pos=>yQ (bd _ λh=>a2 (Eu q hN sc t te) (fD q hN sc false x pe) (JN h)) (yQ (Mh q hN sc t x te pe pos) (Mg q hN sc t x te pe pos))|_=>.no)
 |.j7 x o y,st=>(match st with|.AugAssign (.Name z _) op pe _=>bd _ λh=>a1 (fD q hN sc false y pe) (Hl h)|_=>.no)|.kT x a o v,st=>(match st with|.AugAssign (.Attribute oe nm _) op pe _=>bd _ λh=>a2 (fD q hN sc false x oe) (fD q hN sc false v pe) (Hm h)|_=>.no)|.ret x,st=>(match st with
  |.Return (some pe) _=>a1 (fD q hN sc false x pe) JQ|.Return none _=>(match x with|.none=>a0 λzz zz zz zz=>GH.Dm|_=>.no)|_=>.no)
 |.brk,st=>(match st with|.Break _=>a0 λzz zz zz zz=>Jj.Dm|_=>.no)|.cont,st=>(match st with|.Continue _=>a0 λzz zz zz zz=>GF.Dm|_=>.no)|.ue,st=>(match st with|.Pass _=>a0 λzz zz zz zz=>GD.Dm|_=>.no)|.cond t b o,st=>(match st with|.If te be oe _=>a3 (fD q hN sc true t te) (gA hN sc b be) (gA hN sc o oe) λzz zz zz zz w w1 w2=>GI w w1 w2|_=>.no)|.bP t b o,st=>(match st with|.While te be oe _=>bd hN λh=>a3 (fD q hN sc true t te) (gA hN sc b be) (gA hN sc o oe) (Ew h)|_=>.no)|.ba t k it b o,st=>(match st with|.For te ie be oe _=>bd hN λh=>a3 (a2 (Me q hN sc k it te ie) (Eu q hN sc t te) λzz zz zz zz w w'=>⟨w,w'⟩) (gA hN sc b be) (gA hN sc o oe) (JR h)|_=>.no)|.pX b ks h,st=>(match st with
  |.Try [c] [.ExceptHandler (some te) none (b0::suite) _] [] [] _=>(match b with
   |[x]=>bd hN λhh=>a3 (cC q hN sc ks te) (Mf q hN sc x c) (dn (gA false sc h (b0::suite))) (JS hh)|_=>.no)
  |_=>.no)
 |.stop,_=>a0 λzz zz zz zz=>GG.Dm|.H8 x y,st=>(match st with|.Delete [.Subscript oe (.Slice (some ae) none none _) _] _=>a2 (fD q hN sc false x oe) (fD q hN sc false y ae) λzz zz zz zz w w'=>(Jz w w').Dm|_=>.no)|.kU x,st=>(match st with|.Assert te _ _=>a1 (fD q hN sc true x te) λzz zz zz zz w=>(Bl w).Dm|_=>.no)|.j8,st=>bd hN λhh=>bd (q.ct.mg hN sc st) λh=>a0 λzz n ctx K=>K.F.mg hN sc st h n ctx (K.hF hh) K.hO
noncomputable def gA (hN:Bool) (sc:Sc):(xs:List Mp.S)->(sts:List Stmt)->Gv q hN λS n ctx=>iM S hN n sc ctx (block (dM q.P xs)) sts
 |[],sts=>(match sts with|[]=>a0 λzz zz zz zz=>bg|_=>.no)|c::cs,sts=>(match sts with|st::sts=>a2 (JT hN sc c st) (gA hN sc cs sts) λzz zz zz zz w ws=>wM w ws|[]=>.no)
end
end
end
open PySem PySem.W PyProof.Rows PySem.SeqAt
open Sem (wp)
structure DF where
 params:List Nat
 defaults:List V
 body:List Mp.S
 mark:Option Str
noncomputable def DF.fn (d:DF) (P:G):Fn:=⟨d.params,d.defaults,block (dM P d.body)⟩
noncomputable def Ap (fz:List Str) (p:Str×NameKind):Str×NameKind:=if p.2==.cell&&fz.contains p.1 then(p.1,.free) else p
noncomputable def tB (fz:List Str) (mk:Option Str) (names:Sc):Sc:=(match mk with|some m=>[(m,.globalExplicit)]|none=>[])++names.map (Ap fz)
theorem jX(fz:List Str)(x:Str):∀(names:Sc),(names.map (Ap fz)).lookup x=(names.lookup x).map λk=>if k==.cell&&fz.contains x then .free else k
 |[]=>rfl|p::names=>by
  rw[Qe,Qi,Qi];have h1:(Ap fz p).1=p.1:=by unfold Ap;split<;>rfl
  refine h1.symm▸?_;cases hx:x==p.1 with
  |false=>exact jX fz x names|true=>
   have:x=p.1:=by simpa using hx
   refine this▸?_;refine(?_:some (Ap fz p).2=some (if(p.2==.cell&&fz.contains p.1)=true then Qj else p.2));unfold Ap;split<;>rfl
noncomputable def Ca (names:Sc):Bool:=names.all λp=> !(p.2==.globalExplicit)
theorem Ey{names:Sc}(h:Ca names=true){x:Str}(hx:names.lookup x=some .globalExplicit):False:=by unfold Ca at h;rw[Rq] at h;have:=h _ (bh hx);simp at this
theorem tC{fz:List Str}{mk:Option Str}{names:Sc}{x:Str}:(mk=some x/\(tB fz mk names).lookup x=some .globalExplicit)\/(mk≠some x/\(tB fz mk names).lookup x=(names.lookup x).map λk=>if k==.cell&&fz.contains x then .free else k):=by
 induction mk with
 |none=>exact .inr ⟨ns,jX fz x names⟩|some m=>exact cy (x==m) (λh=>.inr ⟨λe=>ft (h.symm.trans (beq_iff_eq.mpr (PD e).symm)),(Qi.trans (by rw[h];rfl)).trans (jX fz x names)⟩) λh=>.inl ⟨congrArg some (eq_of_beq h).symm,Qi.trans (by rw[h])⟩
theorem Cb{fz:List Str}{mk:Option Str}{names:Sc}(mkl:∀m,mk=some m->names.lookup m=none):Bt (tB fz mk names) names:=λx=>by refine tC.elim (λq=>.inr (.inr ⟨mkl x q.1,q.2⟩)) λq=>?_;rw[q.2];refine cJ (names.lookup x) (λe=>by rw[e];exact .inl rfl) λk e=>?_;rw[e];refine cy (k==.cell&&fz.contains x) (λc=>.inl (congrArg some (if_neg λz=>ft (c.symm.trans z)))) λc=>.inr (.inl ⟨congrArg some (eq_of_beq (aj c)),congrArg some (if_pos c)⟩)
theorem JU{fz:List Str}{mk:Option Str}{names:Sc}(hn:Ca names=true){x:Str}(hx:(tB fz mk names).lookup x=some .globalExplicit):mk=some x:=by
 refine(tC (fz:=fz) (mk:=mk) (names:=names) (x:=x)).elim (λq=>q.1) λq=>?_;refine cJ (names.lookup x) (λe=>?_) λk e=>?_
 .exact ns ((congrArg _ e).symm.trans (q.2.symm.trans hx))
 .have z:=PD ((congrArg (Option.map _) e).symm.trans (q.2.symm.trans hx));refine cy (k==.cell&&fz.contains x) (λc=>?_) λc=>?_
  .exact(Ey hn (e.trans (congrArg some ((if_neg λy=>ft (c.symm.trans y)).symm.trans z)))).elim
  .exact nomatch (if_pos c).symm.trans z
noncomputable def Nc (q:Qc) (fz:List Str) (cS:Str->Option (Addr×Str)) (K:Frag) (d:DF) (fd:FuncData) (body:List Stmt):Bool:=
 decide (fd.globals=mainGlobals)&&(decide (fd.builtins=builtinsNs)&&(fd.closure.isEmpty&&(codeIn K fd.code fd.qualname&&((fd.scope.kind==.function)&&(!fd.scope.isCoroutine&&(!fd.scope.isGenerator&&(e8 fd.params&&
 (decide (fd.params.args.map (·.arg)=d.params.map q.ct.n)&&(d.params.all (λx=>decide (x<q.ct.nm.length))&&(decide d.params.Nodup&&(decide ((fd.scope.names.map (·.1)).Nodup)&&
 ((d.params.map q.ct.n).all (λx=>fd.scope.names.lookup x==some .local||fd.scope.names.lookup x==some .cell)&&(Ca fd.scope.names&&
 (mI (λm=>(fd.scope.names.lookup m).isNone&&mI (λp=>decide (fd.code=.ref p.1)&&(fd.qualname++".<locals>."==p.2)) (cS m)) d.mark&&
 (fz.all (λx=> !(fd.scope.names.lookup x==some .cell)||(d.params.map q.ct.n).contains x)&&
 (((decide (fd.defaults=.none)&&d.defaults.isEmpty)||sV K 3 (.av d.defaults) fd.defaults)&&
 (gA q true (tB fz d.mark fd.scope.names) d.body body).ok))))))))))))))))
noncomputable def Nd (f:FuncBody):Option (List Stmt):=match f with|.stmts b=>some b|_=>none
theorem Hn{f:FuncBody}{b:List Stmt}(h:Nd f=some b):f=.stmts b:=by
 induction f
 case stmts=>exact congrArg FuncBody.stmts (PD h)
 all_goals exact ns h
noncomputable def FF (q:Qc) (fz:List Str) (cS:Str->Option (Addr×Str)) (K:Frag) (fa:Addr) (d:DF):Bool:=AN (λfd=>dF (Nc q fz cS K d fd) (Nd fd.body)) (K.lookup fa)
section
variable{S:SI}{q:Qc}
theorem Cc{l:List Nat}{a b:List Str}(e:a=b)(h:l.all (λx=>decide (x<a.length))=true):∀x∈l,x<b.length:=λx m=>e▸dd (gE h m)
theorem Ho{l m:List Str}{f:Str->Option NameKind}{u v:Option NameKind}(e:l=m)(h:l.all (λx=>f x==u||f x==v)=true):∀x∈m,f x=u\/f x=v:=λx z=>OZ (gE h (e.symm▸z))
theorem yR{mk:Option Str}{names:Sc}{f:Str->Bool}(h:mI (λm=>(names.lookup m).isNone&&f m) mk=true):∀m,mk=some m->names.lookup m=none:=λm hm=>have h:=jl h hm;QY.mp (aj h)
theorem JV{v:Value}{l:List V}{b:Bool}(h:((decide (v=.none)&&l.isEmpty)||b)=true):(v=.none/\l=[])\/b=true:=oe h (λh=>.inl ⟨dd (aj h),RT.mp (ab h)⟩) .inr
theorem JW{fz l m:List Str}{mk:Option Str}{names:Sc}(mkl:∀m,mk=some m->names.lookup m=none)(e:l=m)(h:fz.all (λx=> !(names.lookup x==some .cell)||l.contains x)=true):∀x∈fz,names.lookup x=some .cell->(tB fz mk names).lookup x=some .free/\x∈m:=λx hx hc=>
 ⟨tC.elim (λq=>ns ((mkl x q.1).symm.trans hc)) λq=>q.2.trans (by rw[hc];exact congrArg some (if_pos (show(_&&_)=true by rw[List.contains_iff_mem.mpr hx];rfl))),e▸oe (gE h hx) (λh=>(r6 h hc).elim) v9⟩
theorem JX{fz:List Str}{mk:Option Str}{names:Sc}{cS:Str->Option (Addr×Str)}{v:Value}{s:Str}{f:Str->Bool}(hn:Ca names=true)(h:mI (λm=>f m&&mI (λp=>decide (v=.ref p.1)&&(s==p.2)) (cS m)) mk=true):
  ∀x c q,(tB fz mk names).lookup x=some .globalExplicit->cS x=some (c,q)->v=.ref c/\s=q:=λx c q hx hl=>have h:=jl h (JU hn hx);have h:=jl (ab h) hl;⟨dd (aj h),eq_of_beq (ab h)⟩
theorem JY(F:g9 S q.P q.fns q.ct q.iP){sc:Sc}{d:DF}{body:List Stmt}(h:(gA q true sc d.body body).ok=true):∀n call,iy S q.fns n call->cR call->iM S true n sc ⟨1000,call⟩ (d.fn q.P).body body:=λn call hF hO=>Ev.get h S n ⟨1000,call⟩ ⟨F,λzz=>hF,hO⟩
theorem Hp(F:g9 S q.P q.fns q.ct q.iP){fa:Addr}{d:DF}{fd:FuncData}{body:List Stmt}(k1:∃oc od osl,S.K.lookup fa=some ⟨oc,od,.func fd,osl⟩)(k2:fd.body=.stmts body)(h:Nc q S.fz S.cS S.K d fd body=true):
  zW S q.fns fa (d.fn q.P) fd body (tB S.fz d.mark fd.scope.names)/\(gA q true (tB S.fz d.mark fd.scope.names) d.body body).ok=true:=by
 have nmap:d.params.map q.ct.n=d.params.map S.n:=List.map_congr_left λx zz=>yL F x;exact⟨⟨k1,k2,dd (aj h),dd (aj (ab h)),RT.mp (aj (ab (ab h))),(aj (ab (ab (ab h)))),eq_of_beq (aj (r4 h)),iV (aj (r4 (ab h))),iV (aj (r4 (ab (ab h)))),(aj (r4 (ab (ab (ab h))))),(dd (aj (r4 (r4 h)))).trans nmap,Cc F.nm (aj (r4 (r4 (ab h)))),dd (aj (r4 (r4 (ab (ab h))))),dd (aj (r4 (r4 (ab (ab (ab h)))))),Ho nmap (aj (r4 (r4 (r4 h)))),
  Cb (yR (aj (r4 (r4 (r4 (ab (ab h))))))),JV (aj (r4 (r4 (r4 (r4 h))))),JW (yR (aj (r4 (r4 (r4 (ab (ab h))))))) nmap (aj (r4 (r4 (r4 (ab (ab (ab h))))))),JX (aj (r4 (r4 (r4 (ab h))))) (aj (r4 (r4 (r4 (ab (ab h)))))),JY F (r4 (r4 (r4 (r4 (ab h)))))⟩,(r4 (r4 (r4 (r4 (ab h)))))⟩
theorem Cd(F:g9 S q.P q.fns q.ct q.iP){fa:Addr}{d:DF}(h:FF q S.fz S.cS S.K fa d=true):∃fd body sc,zW S q.fns fa (d.fn q.P) fd body sc/\(gA q true sc d.body body).ok=true:=
 r7 h λoc od fd osl k1 h=>aX h λbody k2 h=>nJ fd body _ (Hp F (nJ oc od osl k1) (Hn k2) h)
end
structure LD where
 du:List Nat
 ps:List Nat
 body:E
noncomputable def LD.fn (d:LD) (P:G):Fn:=⟨d.du++d.ps,[],Mp.s.ret (dE P d.body)⟩
noncomputable def vm:vj:=λzz zz zz zz zz zz=>false
noncomputable def yS (P:G) (fns:List Addr) (ct:CT) (d:LD) (params:Arguments) (body:PE) (scope:Scope):Bool:=
 (scope.kind==.function)&&(!scope.isCoroutine&&(!scope.isGenerator&&(e8 params&&(decide (params.args.map (·.arg)=d.ps.map ct.n)&&((d.ps.map ct.n).all (λx=>scope.names.lookup x==some .local)&&((d.du.map ct.n).all (λx=>scope.names.lookup x==some .free)&&
 (scope.names.all (λp=> !(p.2==.cell)&& !(p.2==.globalExplicit))&&(fD ⟨P,fns,ct,vm⟩ true scope.names false d.body body).ok)))))))
noncomputable def Mi (P:G) (fns:List Addr) (ct:CT) (fz:List Str) (sc:Sc) (xs:List Nat) (params:Arguments) (body:PE) (scope:Scope) (d:LD):Bool:=
 decide (d.du=xs)&&(params.defaults.isEmpty&&(params.kw_defaults.isEmpty&&((xs.map ct.n).all (λx=>fz.contains x&&(sc.lookup x==some .free&&scope.names.lookup x==some .free))&&
 (scope.names.all (λp=> !(p.2==.free)||(xs.map ct.n).contains p.1)&&(decide ((scope.names.map (·.1)).Nodup)&&yS P fns ct d params body scope)))))
noncomputable def pj (P:G) (fns:List Addr) (ct:CT) (fz:List Str) (lds:List LD) (envs:List Str):vj:=λsc k xs params body scope=>
 envs.any (λm=>sc.lookup m==some .globalExplicit)&&dF (Mi P fns ct fz sc xs params body scope) lds[k]?
noncomputable def Ce (P:G) (fns:List Addr) (ct:CT) (lds:List LD) (k:Nat) (fd:FuncData):Prop:=∃d b,lds[k]?=some d/\fd.body=.expr b/\yS P fns ct d fd.params b fd.scope=true/\fd.globals=mainGlobals/\fd.builtins=builtinsNs/\fd.defaults=.none/\∀x c,fd.closure.lookup x=some c->fd.scope.names.lookup x=some .free
noncomputable def pk (lds:List LD) (k:Nat):List Nat:=match lds[k]? with|some d=>d.du|none=>[]
section
variable{S:SI}{P:G}{fns:List Addr}{ct:CT}{lds:List LD}{envs:List Str}
theorem Aq{ps:Arguments}(h2:ps.defaults.isEmpty=true)(h3:ps.kw_defaults.isEmpty=true)(env:PM):defaultsOf ps env=([],[]):=by obtain⟨a1,a2,a3,a4,a5,a6,a7⟩:=ps;obtain rfl:a7=[]:=RT.mp h2;obtain rfl:a5=[]:=RT.mp h3;rfl
theorem Hq{fz:List Str}{xs:List Nat}{sc names:Sc}{f f':Nat->Str}(e:xs.map f=xs.map f')(h:(xs.map f).all (λx=>fz.contains x&&(sc.lookup x==some .free&&names.lookup x==some .free))=true):∀x∈xs,f' x∈fz/\sc.lookup (f' x)=some .free/\(f' x,Qj)∈names:=λx hx=>
 have h:=gE h (e.symm▸Q5 hx);(j2 (v9 (aj h)) (eq_of_beq (aj (ab h))) (bh (eq_of_beq (ab (ab h)))))
theorem Hr{xs:List Str}{names:Sc}(h:names.all (λp=> !(p.2==.free)||xs.contains p.1)=true):∀y,(y,Qj)∈names->y∈xs:=λy hy=>oe (gE h hy) (λh=>(r6 h rfl).elim) v9
theorem Ar(h1:S.kS=Ce P fns ct lds)(h2:S.iW=pk lds)(h3:ct.nm=S.nm)(h4:∀m∈envs,∃c T q,pf S m c T q){sc:Sc}{k:Nat}{xs:List Nat}{ps:Arguments}{body:PE}{scope:Scope}(h:pj P fns ct S.fz lds envs sc k xs ps body scope=true):
  ∀hN n ctx pos,aF S hN n sc ctx (e.kS k xs) (.Lambda ps body scope pos):=λhN n ctx pos=>by
 have nm:xs.map ct.n=xs.map S.n:=List.map_congr_left λx zz=>by unfold CT.n SI.n;rw[h3]
 refine F9 (aj h) λm hm hsc=>?_;refine AK (h4 m hm) λc T q le=>?_;refine aX (ab h) λd hd h=>?_;exact Jy (Aq (aj (ab h)) (aj (ab (ab h)))) (eq_of_beq hsc) le (by rw[h2];unfold pk;rw[hd];exact dd (aj h)) (Hq nm (aj (ab (ab (ab h))))) (nm▸Hr (aj (r4 h))) (dd (aj (r4 (ab h)))) λclos pm cv ctv hc=>h1▸(Fm d body hd rfl (r4 (ab (ab h))) rfl rfl rfl hc)
theorem Cg{l m:List Str}{f:Str->Option NameKind}{u:Option NameKind}(e:l=m)(h:l.all (λx=>f x==u)=true):∀x∈m,f x=u:=λx z=>eq_of_beq (gE h (e.symm▸z))
theorem Ez{names:Sc}(h:names.all (λp=> !(p.2==.cell)&& !(p.2==.globalExplicit))=true):∀p∈names,p.2≠ .cell/\p.2≠ .globalExplicit:=λp m=>have h:=gE h m;⟨r6 (aj h),r6 (ab h)⟩
theorem EA{iP:vj}(F:g9 S P fns ct iP)(h1:S.kS=Ce P fns ct lds)(h2:S.iW=pk lds){k:Nat}{d:LD}(hd:lds[k]?=some d)(hi:∀x∈d.du++d.ps,x<S.nm.length)(hn:(d.du++d.ps).Nodup):GP S fns k (d.fn P) d.ps (dE P d.body):=by
 have F0:g9 S P fns ct vm:={F with kS:=λzz zz zz zz zz zz h=>ft h};have hc:S.iW k=d.du:=by rw[h2];unfold pk;rw[hd]
 refine⟨λfd hl=>?_,by rw[hc];rfl,rfl,hi,hn,rfl⟩;rw[h1] at hl;refine Fi hl λd' b e1 e2 h e4 e5 e6 e7=>?_;obtain rfl:=PD (hd.symm.trans e1);have nmap:∀l:List Nat,l.map ct.n=l.map S.n:=λl=>List.map_congr_left λx zz=>yL F x;exact⟨b,⟨e2,e4,e5,e6,e7,eq_of_beq (aj h),iV (aj (ab h)),iV (aj (ab (ab h))),(aj (ab (ab (ab h)))),(dd (aj (r4 h))).trans (nmap _),Cg (nmap _) (aj (r4 (ab h))),hc.symm▸Cg (nmap _) (aj (r4 (ab (ab h)))),Ez (aj (r4 (ab (ab (ab h))))),λn call hF hO=>Ev.get (r4 (r4 h)) S n ⟨1000,call⟩ ⟨F0,λzz=>hF,hO⟩⟩⟩
end
noncomputable def jY {α:Type} (l:List α) (p:Nat->α->Bool):Bool:=l.zipIdx.all λx=>p x.2 x.1
theorem lI{α:Type}{l:List α}{p:Nat->α->Bool}(h:jY l p=true){i:Nat}{a:α}(hi:l[i]?=some a):p i a=true:=by unfold jY at h;rw[Rq] at h;exact h (a,i) (by rw[List.mem_zipIdx_iff_getElem?];exact hi)
noncomputable def As (y:Option Value) (v:Value):Bool:=decide (y=some v)
noncomputable def vn (ct:CT) (P:G) (fns cls:List Addr) (K:Frag) (gv:Str->Option Value):Bool:=
 mI (ij K) cls[1]?&&(
 jY cls (λc ca=>dF (λcl:Cl=>mI (λf=>dF (λfa=>td K ca fa) fns[f]?) (iR cl.d8 100)) P.cls[c]?)&&(
 ct.rC.all (λp=>dF (λfa=>As (gv p.1) (.ref fa)&&AN (λzz=>true) (K.lookup fa)) fns[p.2]?)&&(
 ct.Ak.all (λp=>dF (λcl:Cl=>dF (λca=>As (gv p.1) (.ref ca)&&dF (λfI=>jb K ca fI) fns[cl.mH]?) cls[p.2]?) P.cls[p.2]?)&&(
 ct.Ie.all (λp=>dF (λv=>As (gv p.1) v) (ti p.2))&&(
 ct.Ig.all (λy=>As (gv y) (.builtin "sorted"))&&(ct.FC.all (λy=>As (gv y) (.type "range"))&&(ct.Ih.all (λy=>As (gv y) (.type "enumerate"))&&(ct.vf.all (λy=>As (gv y) (.type "KeyError"))&&(ct.vg.all (λy=>As (gv y) (.type "IndexError"))&&(
 ct.iQ.all (λp=>mI (λv=>dF (λw=>js v w) (gv p.1)) (ao P.iQ p.2))&&(
 ct.fW.all (λa=>decide (a<ct.nm.length)&&jY cls (λc ca=>dF (λcl:Cl=>jq K ca (ct.n a) (ao cl.fW a)) P.cls[c]?))&&(
 ct.vh.all (λa=>decide (a<ct.nm.length)&&cls.all (λca=>wL K ca (ct.n a)))&&
 ct.rD.all (λp=>(dF (λnm=>decide (nm=p.2)&&P.cls.all (λcl=>(iR cl.d8 p.1).isNone)) (mq p.1))||
  ((mq p.1).isNone&&(!ct.nm.contains p.2&&jY cls (λc ca=>dF (λcl:Cl=>mI (λf=>dF (λfa=>nh K ca p.2 fa) fns[f]?) (iR cl.d8 p.1)) P.cls[c]?))))))))))))))))
theorem nk{l:List (Str×Nat)}{y:Str}{f:Nat}(h:lG l y f=true):(y,f)∈l:=
 F9 h λx m h=>eq_of_beq (aj h)▸eq_of_beq (ab h)▸m
theorem EB{l:List (Nat×Str)}{m:Nat}{y:Str}(h:G8 l m y=true):(m,y)∈l:=
 F9 h λx m h=>eq_of_beq (aj h)▸eq_of_beq (ab h)▸m
section
variable{P:G}{fns cls:List Addr}{ct:CT}{K:Frag}{gv:Str->Option Value}{gl:Str->Option Value}
theorem Ci{C:Nat->Addr->Addr->Bool}{m:Nat}(h:jY cls (λc ca=>dF (λcl:Cl=>mI (λf=>dF (λfa=>C m ca fa) fns[f]?) (iR cl.d8 m)) P.cls[c]?)=true):
  ∀(c:Nat) (ca:Addr),cls[c]?=some ca->∃cl:Cl,P.cls[c]?=some cl/\∀f,iR cl.d8 m=some f->∃fa,fns[f]?=some fa/\C m ca fa=true:=λc ca hc=>
 aX (lI h hc) λcl h1 h=>ag cl h1 (λf hf=>have h:=jl h hf;aX h λfa h2 h=>ag fa h2 h)
theorem tD(hg:∀y v,gv y=some v->gl y=some v){y:Str}{v:Value}(h:As (gv y) v=true):gl y=some v:=hg y v (dd h)
theorem pq(hg:∀y v,gv y=some v->gl y=some v){l:List Str}{v:Value}(h:l.all (λy=>As (gv y) v)=true):∀y,l.contains y=true->gl y=some v:=λy hm=>tD hg (gE h (v9 hm))
theorem Cj(hg:∀y v,gv y=some v->gl y=some v){l:List (Str×Nat)}(h:l.all (λp=>dF (λfa=>As (gv p.1) (.ref fa)&&AN (λzz=>true) (K.lookup fa)) fns[p.2]?)=true):
  ∀y f,lG l y f=true->∃fa oc od fd osl,fns[f]?=some fa/\gl y=some (.ref fa)/\K.lookup fa=some ⟨oc,od,.func fd,osl⟩:=λy f hm=>
 aX (gE h (nk hm)) λfa h1 h=>r7 (ab h) λoc od fd osl hk zz=>Fq fa oc od fd osl h1 (tD hg (aj h)) hk
theorem EC(hg:∀y v,gv y=some v->gl y=some v){l:List (Str×Nat)}(h:l.all (λp=>dF (λcl:Cl=>dF (λca=>As (gv p.1) (.ref ca)&&dF (λfI=>jb K ca fI) fns[cl.mH]?) cls[p.2]?) P.cls[p.2]?)=true):
  ∀y k,lG l y k=true->∃ca fI cl,P.cls[k]?=some cl/\cls[k]?=some ca/\jb K ca fI=true/\fns[cl.mH]?=some fI/\gl y=some (.ref ca):=λy k hm=>
 aX (gE h (nk hm)) λcl h1 h=>aX h λca h2 h=>aX (ab h) λfI h3 h4=>ug ca fI cl h1 h2 h4 h3 (tD hg (aj h))
theorem Hs(hg:∀y v,gv y=some v->gl y=some v){l:List (Str×Nat)}(h:l.all (λp=>dF (λv=>As (gv p.1) v) (ti p.2))=true):∀y b,lG l y b=true->∃fv,ti b=some fv/\gl y=some fv:=λy b hm=>
 aX (gE h (nk hm)) λv h1 h=>ag v h1 (tD hg h)
theorem Ck(hg:∀y v,gv y=some v->gl y=some v){l:List (Str×Nat)}{gs:Lo}(h:l.all (λp=>mI (λv=>dF (λw=>js v w) (gv p.1)) (ao gs p.2))=true):
  ∀y x,lG l y x=true->∀v,ao gs x=some v->∃w,gl y=some w/\js v w=true:=λy x hm v hv=>have h:=jl (gE h (nk hm)) hv;aX h λw h1 h=>ag w (hg _ _ h1) h
end
theorem vp{S:SI}{P:G}{fns:List Addr}{ct:CT}{iP:vj}{gv:Str->Option Value}(hg:∀y v,gv y=some v->S.cQ y=some v)(hn:ct.nm=S.nm)(hl:P.nC=S.r9)
  (hlam:∀sc k xs ps body scope,iP sc k xs ps body scope=true->∀hN n ctx pos,aF S hN n sc ctx (e.kS k xs) (.Lambda ps body scope pos))
  (hmg:∀hN sc st,ct.mg hN sc st=true->∀n ctx,iy S fns n ctx.call->cR ctx.call->fe S hN n sc ctx Mp.s.j8 st) (h:vn ct P fns S.cls S.K gv=true):g9 S P fns ct iP:=by
 have hcn:∀x,ct.n x=S.n x:=λx=>by unfold CT.n SI.n;rw[hn]
 exact⟨hn,λca hca=>jl (aj h) hca,Ci (C:=λzz=>td S.K) (aj (ab h)),hl,Cj hg (aj (ab (ab h))),EC hg (aj (ab (ab (ab h)))),Hs hg (aj (r4 h)),pq hg (aj (r4 (ab h))),pq hg (aj (r4 (ab (ab h)))),pq hg (aj (r4 (ab (ab (ab h))))),pq hg (aj (r4 (r4 h))),pq hg (aj (r4 (r4 (ab h)))),Ck hg (aj (r4 (r4 (ab (ab h))))),
  λa hm=>have h:=gE (aj (r4 (r4 (ab (ab (ab h)))))) (v9 hm);⟨hn▸dd (aj h),λc ca hca=>aX (lI (ab h) hca) λcl h1 h=>ag cl h1 (hcn a▸h)⟩,
  λa hm=>have h:=gE (aj (r4 (r4 (r4 h)))) (v9 hm);⟨hn▸dd (aj h),λc ca hca=>hcn a▸gE (ab h) (P7 hca)⟩,
  λm nm hm=>oe (gE (r4 (r4 (r4 (ab h)))) (EB hm)) (λh=>aX h λnm' h1 h=>.inl ⟨(dd (aj h):nm'=nm)▸h1,λk cl hk=>QY.mp (gE (ab h) (P7 hk))⟩)
   λh=>.inr ⟨QY.mp (aj h),hn▸Ft (aj (ab h)),Ci (C:=λzz ca fa=>nh S.K ca nm fa) (ab (ab h))⟩,hlam,hmg⟩
end
end Mp
namespace L3
open Mp
section
section
variable{P:G}{c:Ctx}{lo:Lo}{s s1 s2 s3 s4:Mp.St}{x y z w:Mp.E}{a b v u:V}{i:Int}{k m:Nat}{r:R V}{l:List Mp.E}{vs xs ys:List V}{es:List (V×V)}{lo1 lo2:Lo}{S:Mp.S}{B D:List Mp.S}{q:R (Flow×Lo)}
theorem lk{k:Nat}{v:V}:ao (a9 lo k v) k=some v:=(eX ..).trans (if_pos rfl)
theorem lm{k y:Nat}{v:V}{o:Option V}(h:ao lo y=o)(e:P8 y k=false):ao (a9 lo k v) y=o:=(eX ..).trans ((if_neg (Nat.ne_of_beq_eq_false e)).trans h)
theorem bd{α β:Type}{r:R α}{a:α}{s:Mp.St}{f:α->Mp.St->R β}{q:R β}(h:r=.ok a s)(e:f a s=q):r.bind f=q:=h▸e
theorem nx{α β:Type}{r:R α}{a:α}{s:Mp.St}{f:α->Mp.St->R β}{q:R β}(h:r=.ok a s)(e:f a s=q):(bb r).bind f=q:=h▸e
theorem oo{α β:Type}{o:Option α}{a:α}{n:Nat}{f:α->Mp.St->R β}{q:R β}(h:o=some a)(e:f a s=q):(gN n o s).bind f=q:=h▸e
theorem op{α:Type}{o:Option α}{a:α}{n:Nat}(h:o=some a):gN n o s=.ok a s:=h▸rfl
theorem ai(h:ao lo k=some v):dE P (.vr k) c lo s=.ok v s:=op h
theorem aK:dE P (.int i) c lo s=.ok (.int i) s:=rfl
theorem bj:dE P .none c lo s=.ok .none s:=rfl
theorem aU{l:List Nat}:dE P (.str l) c lo s=.ok (.str l) s:=rfl
theorem dU{o:AH}{t:Bool}(h:dE P x c lo s=.ok a s1)(h2:dE P y c lo s1=.ok b s2)(h3:iF o a b s2=some t):dE P (.cmp o x y) c lo s=.ok (.bool t) s2:=bd h (bd h2 (by rw[h3]))
theorem bw(h:dE P x c lo s=.ok a s1)(h2:dE P y c lo s1=.ok b s2)(h3:cN a b s2=r):dE P (.az x y) c lo s=r:=bd h (bd h2 h3)
theorem jZ{d:Nat}{fs:List (Nat×V)}(h:dE P x c lo s=.ok (.bc k d) s1)(g:s1.get d=some (.ns fs))(t:ao fs m=some v):dE P (.ah x m) c lo s=.ok v s1:=bd h (by unfold eb;dsimp only;rw[g];dsimp only;rw[t])
theorem vw:gO (cW P []) c lo s=.ok [] s:=rfl
theorem dP(h:dE P x c lo s=.ok v s1)(h2:gO (cW P l) c lo s1=.ok vs s2):gO (cW P (x::l)) c lo s=.ok (v::vs) s2:=bd h (bd h2 rfl)
theorem ew(h:dE P x c lo s=.ok v s1):gO (cW P [x]) c lo s=.ok [v] s1:=dP h vw
theorem cx(h:dE P x c lo s=.ok v s1)(h2:dE P y c lo s1=.ok u s2):gO (cW P [x,y]) c lo s=.ok [v,u] s2:=dP h (ew h2)
theorem fS(h:gO (cW P l) c lo s=.ok vs s1):dE P (.av l) c lo s=.ok (.av vs) s1:=bd h rfl
theorem lJ{j:Nat}{xs ys:List V}(h:dE P x c lo s=.ok (.ar j) s1)(g:s1.get j=some (.list xs))(h2:gO (cW P l) c lo s1=.ok vs s2)(g2:s2.get j=some (.list ys))(h3:j4 j ys m vs s2=r):dE P (.aH x m l) c lo s=r:=
 bd h (by dsimp only;rw[g];exact nx h2 (by rw[g2];exact h3))
theorem pv{t:Bool}(h:dE P x c lo s=.ok v s1)(h2:aM v s1=some t)(h3:@PS (λzz=>R V) (dE P y c lo s1) (.ok v s1) t=r):dE P (.or [x,y]) c lo s=r:=bd h (oo h2 h3)
theorem iB{t:Bool}(h:dE P x c lo s=.ok v s1)(h2:aM v s1=some t)(h3:@PS (λzz=>R V) (.ok v s1) (dE P y c lo s1) t=r):dE P (.and [x,y]) c lo s=r:=bd h (oo h2 h3)
theorem eK{t:Bool}(h:dE P x c lo s=.ok v s1)(h2:aM v s1=some t):ea (dE P x) c lo s=.ok t s1:=bd h (op h2)
theorem dI{o:AH}{t:Bool}(h:dE P x c lo s=.ok a s1)(h2:dE P y c lo s1=.ok b s2)(h3:iF o a b s2=some t):ea (dE P (.cmp o x y)) c lo s=.ok t s2:=eK (dU h h2 h3) rfl
theorem v_not{t:Bool}(h:ea (dE P x) c lo s=.ok t s1):dE P (.not x) c lo s=.ok (.bool (eA t)) s1:=bd h rfl
theorem Cm{α:Type}{l:List α}(h:l.length<1000):aN (len l)=true:=aJ l▸QR.mpr (PN h (by decide))
theorem xD{n:Nat}(sm:small i=true)(ix:fh (len vs) i=some n)(h:vs[n]?=some v):cY vs (.int i) s=.ok v s:=by unfold cY;dsimp only;rw[sm];dsimp only;rw[ix];exact op ((bz ..).trans h)
theorem iC{l:Nat}(g:s.get l=some (.list vs))(h:cY vs b s=r):cN (.ar l) b s=r:=by unfold cN;dsimp only;rw[g];exact h
theorem dN{l:Nat}(g:s.get l=some (.dict es))(k:aA b=true)(d:aE es b=some v):cN (.ar l) b s=.ok v s:=by unfold cN;dsimp only;rw[g];dsimp only;rw[k];dsimp only;rw[d]
theorem gp{l:Nat}{o:O}:(s.bU l o).get l=some o:=(St.cF ..).trans (if_pos rfl)
theorem iI{l i:Nat}{o:O}{q:Option O}(h:i≠l)(e:s.get i=q):(s.bU l o).get i=q:=(St.cF ..).trans ((if_neg h).trans e)
theorem yT{l:Nat}(r:xs.length<1000)(e:xs++[v]=ys):j4 l xs 0 [v] s=.ok .none (s.bU l (.list ys)):=by refine(?_:(match aN (len xs) with|true=>R.ok V.none (s.bU l (.list (dZ xs [v])))|false=>_)=_);rw[Cm r,bx,e]
theorem pA(h:dE P x c lo s=.ok v s1):dS P (.expr x) c lo s=.ok (.next,lo) s1:=bd h rfl
theorem jz(h:ea (dE P x) c lo s=.ok true s1)(h2:block (dM P B) c lo s1=q):dS P (.cond x B D) c lo s=q:=bd h h2
theorem bY(h:ea (dE P x) c lo s=.ok false s1)(h2:block (dM P D) c lo s1=q):dS P (.cond x B D) c lo s=q:=bd h h2
theorem bg:block (dM P []) c lo s=.ok (.next,lo) s:=rfl
theorem au(h:dS P S c lo s=.ok (.next,lo1) s1)(h2:block (dM P B) c lo1 s1=q):block (dM P (S::B)) c lo s=q:=bd h h2
end
end
end L3
namespace Mp
section
open PySem PySem.W PyProof.Rows PySem.SeqAt
open Sem (wp)
open Mp.s (oI oS oL oO oD oV oN oT jL pY nH Fg Dy F6 mY mA mB mJ mP LB mL Dz zx Dj Lh Fh Ir mN DA mK mQ zy mX H9 mC AE F7 Iu Li mT v8 zA mR)
noncomputable def x2:Mp.S:=.cond (.or [.cmp .gt (.vr 171) (.vr 173),.and [.cmp .eq (.vr 171) (.vr 173),.cmp .eq (.vr 172) (.str [114,105,103,104,116])]]) [.kT (.az (.vr 87) (.ah (.az (.vr 167) (.vr 27)) 32)) 174 .az (.int 1),.aq (.az (.vr 166) (.vr 27)) (.vr 131),.aq (.az (.vr 167) (.vr 27)) (.vr 31),.cond (.not (.vr 173)) [.expr (.aH (.ah (.vr 72) 70) 0 [.av [.vr 165,.vr 27,.str [115,104,105,102,116]]])] []] [.cond (.and [.cmp .eq (.vr 171) (.vr 173),.cmp .eq (.vr 172) (.str [110,111,110,97,115,115,111,99])]) [.aq (.az (.vr 166) (.vr 27)) .none] [.cond (.and [.not (.vr 171),.not (.vr 173)]) [.expr (.aH (.ah (.vr 72) 70) 0 [.av [.vr 165,.vr 27,.str [114,101,100,117,99,101]]])] []]]
noncomputable def Cn (P:G) (fns:List Addr) (ct:CT):Bool->Sc->Stmt->Bool:=λhN sc st=>(JT ⟨P,fns,{ct with mg:=λzz zz zz=>false},vm⟩ hN sc x2 st).ok
theorem ob{α:Type}{f:V->Option α}{m:α->V}{x:Option V}{i:α}(e:∀ {v i},f v=some i->v=m i)(h:x.bind f=some i):x=some (m i):=by refine aa (PV.mp h) λv h1 h2=>?_;exact h1.trans (congrArg some (e h2))
theorem ED{v:V}{i:Nat}(h:Mp.s.vL v=some i):v=.ar i:=by cases v<;>first|(exact ns h;done)|exact congrArg V.ar (PD h)
theorem EE{v:V}{i:Nat×Nat}(h:Mp.s.vO v=some i):v=.bc i.1 i.2:=by cases v<;>first|(exact ns h;done)|exact congrArg (λi:Nat×Nat=>V.bc i.1 i.2) (PD h)
theorem iD{x:Option V}{i:Int}(h:oI x=some i):x=some (.int i):=ob yK h
theorem yU{x:Option V}{i:List Nat}(h:oS x=some i):x=some (.str i):=ob tu h
theorem ey{x:Option V}{i:Nat}(h:oL x=some i):x=some (.ar i):=ob ED h
theorem kE{x:Option V}{i:Nat×Nat}(h:oO x=some i):x=some (.bc i.1 i.2):=ob (m:=λi=>.bc i.1 i.2) EE h
theorem nr{x:Option O}{i:List (V×V)}(h:oD x=some i):x=some (.dict i):=by induction x with
 |none=>exact ns h|some o=>induction o<;>first|(exact ns h;done)|exact congrArg (λz=>some (O.dict z)) (PD h)
theorem EF{x:Option O}{i:List V}(h:oV x=some i):x=some (.list i):=by induction x with
 |none=>exact ns h|some o=>induction o<;>first|(exact ns h;done)|exact congrArg (λz=>some (O.list z)) (PD h)
theorem kF{x:Option O}{i:List (Nat×V)}(h:oN x=some i):x=some (.ns i):=by induction x with
 |none=>exact ns h|some o=>induction o<;>first|(exact ns h;done)|exact congrArg (λz=>some (O.ns z)) (PD h)
theorem xE(vs:List V):bo (vs.map λv=>(true,v))=vs:=by
 unfold bo;induction vs with
 |nil=>rfl|cons v vs ih=>simpa using ih
theorem yV{x:Option O}{bs:List (Bool×V)}(h:oT x=some bs):(x=some (.list (bo bs)))\/x=some (.dq bs):=by
 induction x with
 |none=>exact ns h|some o=>
  induction o<;>first|(exact ns h;done)|skip
  .exact .inl (congrArg (λz=>some (O.list z)) (PD h▸(xE _).symm))
  .exact .inr (congrArg (λz=>some (O.dq z)) (PD h))
theorem Au(i:Int)(s:St):aM (.int i) s=some (eA (kP i 0)):=by
 induction i with
 |ofNat n=>induction n<;>rfl
 |negSucc n=>rfl
theorem Co{fs:List (Nat×V)}{x:Nat}{v:V}(h:ao fs x=some v):a9 fs x v=fs:=by
 induction fs with
 |nil=>exact ns h|cons p fs ih=>
  have e1:a9 (p::fs) x v=@PS (λzz=>List (Nat×V)) (p::a9 fs x v) ((x,v)::fs) (P8 p.1 x):=rfl;have e2:ao (p::fs) x=@PS (λzz=>Option V) (ao fs x) (some p.2) (P8 p.1 x):=rfl;refine e1.trans ?_;rw[e2] at h;cases z:P8 p.1 x with
  |true=>rw[z] at h;injection h with h;refine h▸?_;have:p.1=x:=Q8 z;refine this▸?_;rfl
  |false=>rw[z] at h;refine(?_:p::a9 fs x v=p::fs);rw[ih h]
theorem rH{es:List (V×V)}{x v:V}(h:aE es x=some v):bD es x v=es:=by
 induction es with
 |nil=>exact ns h|cons p fs ih=>
  have e1:bD (p::fs) x v=@PS (λzz=>List (V×V)) (p::bD fs x v) ((p.1,v)::fs) (mG (jk p.1 x)):=rfl;have e2:aE (p::fs) x=@PS (λzz=>Option V) (aE fs x) (some p.2) (mG (jk p.1 x)):=rfl;refine e1.trans ?_;rw[e2] at h;cases z:mG (jk p.1 x) with
  |true=>rw[z] at h;refine(PD h)▸?_;rfl|false=>rw[z] at h;refine(?_:p::bD fs x v=p::fs);rw[ih h]
theorem aD.Ht{S:SI}{g:Gh}{s s':St}{sh:Shared}(r:aD S g s sh)(hn:s'.n=s.n)(h:∀i,s'.get i=s.get i\/∃o o',s.get i=some o/\s'.get i=some o'/\∀a,OR S g sh.heap a o->OR S g sh.heap a o'):aD S g s' sh:=
 {r with
  len:=r.len.trans hn.symm
  bc:=λi a hi=>by
   refine aa (r.bc i a hi) λo h1 h2=>?_;rcases h i with e|⟨o1,o2,e1,e2,e3⟩
   .exact⟨o,e.trans h1,h2⟩
   .rw[e1] at h1;obtain rfl:=PD h1;exact ag o2 e2 (e3 a h2)
  so:=λi o hi=>by
   refine hn.symm▸?_;rcases h i with e|⟨o1,o2,e1,e2,e3⟩
   .exact r.so i o (e.symm.trans hi)
   .exact r.so i o1 e1}
theorem sg{α:Type}{o:Option α}{d:α}(h:o.isSome=true):o=some (o.getD d):=by
 induction o with
 |none=>exact ft h|some a=>rfl
theorem al:∀ {l:List Bool} {i:Nat} {b:Bool},v8 l=true->l[i]?=some b->b=true
 |a::l,0,b,k,h=>PD h▸(aL.mp k).1|a::l,i+1,b,k,h=>al (l:=l) (i:=i) (aL.mp k).2 h
noncomputable def mt (lo:Lo) (s:St):St:=s.bU (mC lo s) (.list (bo (AE lo s)))
section
variable{P:G}{c:Ctx}{lo:Lo}{s s1 s2 s3 sB:St}{i l:Nat}{o o1:O}{b n z1 z2:Bool}{x:Mp.E}{bs':List (Bool×V)}{t:St}
theorem JZ(h:s.get i=some o)(h':s.get l=some o1)(n:o=o1->False):i≠l:=λe=>n (PD (h.symm.trans ((congrArg s.get e).trans h')))
theorem pc(e:s.get i=s1.get i):(s.bU l o).get i=(s1.bU l o).get i:=by simp only[St.cF,e]
theorem pB(h:s.get l=some o):(s.bU l o).get i=s.get i:=(St.cF ..).trans (by
 split
 .rename_i e;exact e▸h.symm
 .rfl)
theorem fE(a b:List (Bool×V)):bo (dZ a b)=dZ (bo a) (bo b):=by simp only[bx,bo,List.filter_append,QZ]
theorem Pc{bs:List (Bool×V)}{v w:V}:some (O.list (dZ (bo bs) [v]))=some (.list (bo (dZ bs [(true,v),(false,w)]))):=congrArg (λz=>some (O.list z)) (fE bs [(true,v),(false,w)]).symm
theorem Pd{bs:List (Bool×V)}{v w:V}:some (O.list (dZ (bo bs) [w]))=some (.list (bo (dZ bs [(false,v),(true,w)]))):=congrArg (λz=>some (O.list z)) (fE bs [(false,v),(true,w)]).symm
theorem Mj{bs:List (Bool×V)}{v w:V}:some (O.list (bo bs))=some (.list (bo (dZ bs [(false,v),(false,w)]))):=congrArg (λz=>some (O.list z)) ((fE bs [(false,v),(false,w)]).trans ((bx ..).trans (QI _))).symm
theorem Cp{z y:Mp.E}{v q:V}{es:List (V×V)}(hz:dE P z c lo s=.ok v s)(hx:dE P x c lo s=.ok (.ar l) s)(hy:dE P y c lo s=.ok q s)(g:s.get l=some (.dict es))(k:aA q=true)(r:aN (len es)=true):dS P (.aq (.az x y) z) c lo s=.ok (.next,lo) (s.bU l (.dict (bD es q v))):=
 L3.bd hz (L3.bd (L3.bd hx (L3.bd hy (L3.bd (show fK (.ar l) q v s=.ok () (s.bU l (.dict (bD es q v))) by unfold fK;dsimp only;rw[g];dsimp only;rw[k];dsimp only;rw[r]) rfl))) rfl)
theorem Hu{k d m:Nat}{fs:List (Nat×V)}{i:Int}(hE:dE P x c lo s=.ok (.bc k d) s)(g:s.get d=some (.ns fs))(h:ao fs m=some (.int i))(r:aN (len fs)=true):dS P (.kT x m .az (.int 1)) c lo s=.ok (.next,lo) (s.bU d (.ns (a9 fs m (.int (i-1))))):=
 L3.bd hE (L3.bd (show eb P (.bc k d) m s=.ok (.int i) s by unfold eb;dsimp only;rw[g];dsimp only;rw[h]) (L3.bd rfl (L3.bd rfl (L3.bd (show dB (.bc k d) m (.int (i-1)) s=.ok () (s.bU d (.ns (a9 fs m (.int (i-1))))) by unfold dB;dsimp only;rw[g];dsimp only;rw[r]) rfl))))
theorem J0{y:Mp.E}(h:dE P x c lo s=.ok (.bool b) s)(h2:dE P y c lo s=.ok (.bool n) s):dE P (.or [x,y]) c lo s=.ok (.bool (Mp.Le b n)) s:=L3.pv h rfl (by clear h;induction b;exact h2;rfl)
theorem xF{y:Mp.E}(h:dE P x c lo s=.ok (.bool b) s)(h2:dE P y c lo s=.ok (.bool n) s):dE P (.and [x,y]) c lo s=.ok (.bool (aP b n)) s:=L3.iB h rfl (by clear h;induction b;rfl;exact h2)
theorem Hv{k:Nat}{i:Int}(h:ao lo k=some (.int i)):dE P (.not (.vr k)) c lo s=.ok (.bool (kP i 0)) s:=(L3.v_not (L3.eK (L3.ai h) (Au i s))).trans (by cases kP i 0<;>rfl)
section
variable(k:v8 (mT lo s)=true)
include k
theorem k1:ao lo 171=some (.int (Fg lo)):=iD (sg (al (i:=0) k rfl))
theorem k2:ao lo 173=some (.int (Dy lo)):=iD (sg (al (i:=1) k rfl))
theorem k3:ao lo 172=some (.str (F6 lo)):=yU (sg (al (i:=2) k rfl))
theorem k4:ao lo 27=some (.str (mY lo)):=yU (sg (al (i:=3) k rfl))
theorem k5:ao lo 166=some (.ar (mA lo)):=ey (sg (al (i:=4) k rfl))
theorem k6:ao lo 167=some (.ar (mB lo)):=ey (sg (al (i:=5) k rfl))
theorem k7:ao lo 131=some (.int (mJ lo)):=iD (sg (al (i:=6) k rfl))
theorem k8:ao lo 31=some (.bc (mP lo).1 (mP lo).2):=kE (sg (al (i:=7) k rfl))
theorem k9:ao lo 165=some (.int (LB lo)):=iD (sg (al (i:=8) k rfl))
theorem Ej:ao lo 87=some (.ar (mL lo)):=ey (sg (al (i:=9) k rfl))
theorem Pe:ao lo 72=some (.bc (Dz lo).1 (Dz lo).2):=kE (sg (al (i:=10) k rfl))
theorem Hw:s.get (mA lo)=some (.dict (zx lo s)):=nr (sg (al (i:=11) k rfl))
theorem Hx:s.get (mB lo)=some (.dict (Dj lo s)):=nr (sg (al (i:=12) k rfl))
theorem Pf:aE (zx lo s) (.str (mY lo))=some (.int (Lh lo s)):=iD (sg (al (i:=13) k rfl))
theorem Nf:aE (Dj lo s) (.str (mY lo))=some (.bc (Fh lo s).1 (Fh lo s).2):=kE (sg (al (i:=14) k rfl))
theorem Pg:s.get (Fh lo s).2=some (.ns (Ir lo s)):=kF (sg (al (i:=15) k rfl))
theorem Ph:ao (Ir lo s) 32=some (.int (mN lo s)):=iD (sg (al (i:=16) k rfl))
theorem Mk:s.get (mL lo)=some (.list (DA lo s)):=EF (sg (al (i:=17) k rfl))
theorem Pj:fh (len (DA lo s)) (mN lo s)=some (mK lo s):=sg (al (i:=18) k rfl)
theorem Pk:aZ (DA lo s) (mK lo s)=some (.bc (mQ lo s).1 (mQ lo s).2):=kE (sg (al (i:=19) k rfl))
theorem Hy:s.get (mQ lo s).2=some (.ns (zy lo s)):=kF (sg (al (i:=20) k rfl))
theorem Ng:ao (zy lo s) 174=some (.int (mX lo s)):=iD (sg (al (i:=21) k rfl))
theorem J1:s.get (Dz lo).2=some (.ns (H9 lo s)):=kF (sg (al (i:=22) k rfl))
theorem Ml:ao (H9 lo s) 70=some (.ar (mC lo s)):=ey (sg (al (i:=23) k rfl))
theorem Mm:oT (s.get (mC lo s))=some (AE lo s):=sg (al (i:=24) k rfl)
theorem J2(h:s.get i=some o)(e:oT (some o)=.none):i≠mC lo s:=λq=>nomatch (e.symm.trans (congrArg oT (h.symm.trans (congrArg s.get q)))).trans (Mm k)
theorem tg(h:s.get i=some o)(e:oT (some o)=.none):(mt lo s).get i=some o:=L3.iI (J2 k h e) h
theorem tL:(mt lo s).get (mL lo)=some (.list (DA lo s)):=by
 by_cases e:mL lo=mC lo s
 .refine(congrArg _ e).trans (L3.gp.trans ?_);refine QK (yV (Mm k)) (λz=>?_) λz=>?_
  .exact z.symm.trans ((congrArg s.get e).symm.trans (Mk k))
  .exact nomatch z.symm.trans ((congrArg s.get e).symm.trans (Mk k))
 .exact L3.iI e (Mk k)
theorem hE:dE P (.az (.vr 87) (.ah (.az (.vr 167) (.vr 27)) 32)) c lo (mt lo s)=.ok (.bc (mQ lo s).1 (mQ lo s).2) (mt lo s):=
 L3.bw (L3.ai (Ej k)) (L3.jZ (L3.bw (L3.ai (k6 k)) (L3.ai (k4 k)) (L3.dN (tg k (Hx k) rfl) rfl (Nf k))) (tg k (Pg k) rfl) (Ph k)) (L3.iC (tL k) (L3.xD (al (i:=25) k rfl) (Pj k) ((bz ..).symm.trans (Pk k))))
theorem rk:aN (len (bo (AE lo s)))=true:=by have r5:=al (i:=29) k rfl;rw[aJ] at r5⊢;exact QR.mpr (PN (QQ ((P9 _).symm▸List.length_filter_le _ _)) (QR.mp r5))
theorem J3(w:List Nat){fs:List (Nat×V)}(g:t.get (Dz lo).2=some (.ns fs))(g3:ao fs 70=some (.ar (mC lo s)))(g2:t.get (mC lo s)=some (.list (bo (AE lo s)))):dS P (.expr (.aH (.ah (.vr 72) 70) 0 [.av [.vr 165,.vr 27,.str w]])) c lo t=.ok (.next,lo) (t.bU (mC lo s) (.list (dZ (bo (AE lo s)) [F7 lo w]))):=
 L3.pA (L3.lJ (L3.jZ (L3.ai (Pe k)) g g3) g2 (L3.ew (L3.fS (L3.dP (L3.ai (k9 k)) (L3.cx (L3.ai (k4 k)) L3.aU)))) g2 (by refine(?_:(match aN (len (bo (AE lo s))) with|true=>R.ok V.none (t.bU (mC lo s) (.list (dZ (bo (AE lo s)) [F7 lo w])))|false=>_)=_);rw[rk k]))
end
noncomputable def Rf (P:G) (c:Ctx) (lo:Lo) (s s':St):Prop:=∃sB bs',dS P x2 c lo (mt lo s)=.ok (.next,lo) sB/\sB.n=s'.n/\s'.get (mC lo s)=some (.dq bs')/\sB.get (mC lo s)=some (.list (bo bs'))/\∀i,i≠mC lo s->sB.get i=s'.get i
theorem rf(ev:dS P x2 c lo (mt lo s)=.ok (.next,lo) sB)(n:sB.n=s3.n)(gC:sB.get (mC lo s)=some (.list (bo bs')))(g:∀i,i≠mC lo s->sB.get i=s3.get i):Rf P c lo s (s3.bU (mC lo s) (.dq bs')):=jB sB bs' ev n L3.gp gC (λi h=>(g i h).trans (L3.iI h rfl).symm)
variable(k:v8 (mT lo s)=true)
include k
theorem J4(hi:i≠mC lo s):(zA false n lo s).get i=((mt lo s).bU (mA lo) (.dict (bD (zx lo s) (.str (mY lo)) (bif n then .none else .int (Lh lo s))))).get i:=by have hB:mB lo≠mA lo:=λe=>nomatch (((RL _).symm.trans ((congrArg (P8 (mA lo)) e.symm).trans (by have:=al (i:=30) k rfl;revert this;cases P8 (mA lo) (mB lo)<;>decide)):true=false));have hqB:(mQ lo s).2≠mB lo:=JZ (Hy k) (Hx k) (λzq=>False.elim (noConfusion_of_Nat Mp.O.ctorIdx zq));have e1:=(congrArg (λz=>a9 (zy lo s) 174 (.int z)) (Int.sub_zero _)).trans (Co (Ng k));unfold Mp.s.zA;dsimp only[cond];rw[e1,rH (Nf k)];refine(pB ?_).trans (pc ((pB (Hy k)).trans (L3.iI hi rfl).symm));exact L3.iI hB (L3.iI hqB.symm (Hx k))
theorem J5{z:Mp.E}{v:V}(g:t.get (mA lo)=some (.dict (zx lo s)))(hz:dE P z c lo t=.ok v t):dS P (.aq (.az (.vr 166) (.vr 27)) z) c lo t=.ok (.next,lo) (t.bU (mA lo) (.dict (bD (zx lo s) (.str (mY lo)) v))):=Cp hz (L3.ai (k5 k)) (L3.ai (k4 k)) g rfl (al (i:=26) k rfl)
theorem hN:mB lo≠mA lo:=λe=>by have:=al (i:=30) k rfl;rw[e,(RL _:P8 (mA lo) (mA lo)=true)] at this;exact ft this
theorem J6(h1:jL (Fg lo) (Dy lo) (F6 lo)=true)(h4:kP (Dy lo) 0=z2)(T1:ea (dE P (.or [.cmp .gt (.vr 171) (.vr 173),.and [.cmp .eq (.vr 171) (.vr 173),.cmp .eq (.vr 172) (.str [114,105,103,104,116])]])) c lo (mt lo s)=.ok true (mt lo s))(T4:∀t,ea (dE P (.not (.vr 173))) c lo t=.ok z2 t):Rf P c lo s (mR true n z1 z2 lo s):=by
 have nA:=J2 k (Hw k) rfl;have nB:=J2 k (Hx k) rfl;have nq:=J2 k (Hy k) rfl;have e1:∀ {S4 t},dS P S4 c lo (((((mt lo s).bU (mQ lo s).2 (.ns (a9 (zy lo s) 174 (.int (mX lo s-1))))).bU (mA lo) (.dict (bD (zx lo s) (.str (mY lo)) (.int (mJ lo))))).bU (mB lo) (.dict (bD (Dj lo s) (.str (mY lo)) (.bc (mP lo).1 (mP lo).2)))))=.ok (.next,lo) t->S4=.cond (.not (.vr 173)) [.expr (.aH (.ah (.vr 72) 70) 0 [.av [.vr 165,.vr 27,.str Iu]])] []->dS P x2 c lo (mt lo s)=.ok (.next,lo) t:=λh e=>
  L3.jz T1 (L3.au (Hu (hE k) (tg k (Hy k) rfl) (Ng k) (al (i:=28) k rfl)) (L3.au (J5 k (L3.iI (JZ (Hw k) (Hy k) (λzq=>False.elim (noConfusion_of_Nat Mp.O.ctorIdx zq))) (tg k (Hw k) rfl)) (L3.ai (k7 k)))
   (L3.au (Cp (L3.ai (k8 k)) (L3.ai (k6 k)) (L3.ai (k4 k)) (L3.iI (hN k) (L3.iI (JZ (Hx k) (Hy k) (λzq=>False.elim (noConfusion_of_Nat Mp.O.ctorIdx zq))) (tg k (Hx k) rfl))) rfl (al (i:=27) k rfl)) (L3.au (e▸h) L3.bg))))
 have g3:∀i,i≠mC lo s->((((mt lo s).bU (mQ lo s).2 (.ns (a9 (zy lo s) 174 (.int (mX lo s-1))))).bU (mA lo) (.dict (bD (zx lo s) (.str (mY lo)) (.int (mJ lo))))).bU (mB lo) (.dict (bD (Dj lo s) (.str (mY lo)) (.bc (mP lo).1 (mP lo).2)))).get i=(zA true n lo s).get i:=λi hi=>pc (pc (pc (L3.iI hi rfl)));have gC:=L3.iI (o:=.dict (bD (Dj lo s) (.str (mY lo)) (.bc (mP lo).1 (mP lo).2))) nB.symm (L3.iI (o:=.dict (bD (zx lo s) (.str (mY lo)) (.int (mJ lo)))) nA.symm (L3.iI (o:=.ns (a9 (zy lo s) 174 (.int (mX lo s-1)))) nq.symm (L3.gp (s:=s) (o:=.list (bo (AE lo s))))));induction z2 with
 |true=>
  have gS:∃fs,((mt lo s).bU (mQ lo s).2 (.ns (a9 (zy lo s) 174 (.int (mX lo s-1))))).get (Dz lo).2=some (.ns fs)/\ao fs 70=some (.ar (mC lo s)):=by
   by_cases e:(Dz lo).2=(mQ lo s).2
   .have ef:H9 lo s=zy lo s:=O.ns.inj (PD ((J1 k).symm.trans ((congrArg s.get e).trans (Hy k))));exact ag _ ((congrArg _ e).trans L3.gp) ((eX ..).trans ((if_neg (by decide)).trans (ef▸Ml k)))
   .exact ag _ (L3.iI e (tg k (J1 k) rfl)) (Ml k)
  refine PW gS λfs hz0=>?_;exact rf (e1 (L3.jz (T4 _) (L3.au (J3 k Iu (L3.iI (JZ (J1 k) (Hx k) (λzq=>False.elim (noConfusion_of_Nat Mp.O.ctorIdx zq))) (L3.iI (JZ (J1 k) (Hw k) (λzq=>False.elim (noConfusion_of_Nat Mp.O.ctorIdx zq))) hz0.1)) hz0.2 gC) L3.bg)) rfl) rfl (L3.gp.trans Pc) λi hi=>(L3.iI hi rfl).trans (g3 i hi)
 |false=>exact rf (e1 (L3.bY (T4 _) L3.bg) rfl) rfl (gC.trans Mj) g3
theorem J7(T1:ea (dE P (.or [.cmp .gt (.vr 171) (.vr 173),.and [.cmp .eq (.vr 171) (.vr 173),.cmp .eq (.vr 172) (.str [114,105,103,104,116])]])) c lo (mt lo s)=.ok false (mt lo s))(T2:ea (dE P (.and [.cmp .eq (.vr 171) (.vr 173),.cmp .eq (.vr 172) (.str [110,111,110,97,115,115,111,99])])) c lo (mt lo s)=.ok n (mt lo s))
  (T3:ea (dE P (.and [.not (.vr 171),.not (.vr 173)])) c lo (mt lo s)=.ok (aP z1 z2) (mt lo s)):Rf P c lo s (mR false n z1 z2 lo s):=by
 induction n with
 |true=>exact rf (L3.bY T1 (L3.au (L3.jz T2 (L3.au (J5 k (tg k (Hw k) rfl) L3.bj) L3.bg)) L3.bg)) rfl ((L3.iI (J2 k (Hw k) rfl).symm L3.gp).trans Mj) λi hi=>(J4 (n:=true) k hi).symm|false=>
  have tA:=λi hi=>((J4 (n:=false) k hi).trans ((congrArg (λz=>((mt lo s).bU (mA lo) (.dict z)).get i) (rH (Pf k))).trans (pB (tg k (Hw k) rfl)))).symm;have key:∀z,ea (dE P (.and [.not (.vr 171),.not (.vr 173)])) c lo (mt lo s)=.ok z (mt lo s)->Rf P c lo s ((zA false false lo s).bU (mC lo s) (.dq (dZ (AE lo s) [(false,F7 lo Iu),(z,F7 lo Li)]))):=λz h=>by
   induction z with
   |true=>exact rf (L3.bY T1 (L3.au (L3.bY T2 (L3.au (L3.jz h (L3.au (J3 k Li (tg k (J1 k) rfl) (Ml k) L3.gp) L3.bg)) L3.bg)) L3.bg)) rfl (L3.gp.trans Pd) λi hi=>(L3.iI hi rfl).trans (tA i hi)|false=>exact rf (L3.bY T1 (L3.au (L3.bY T2 (L3.au (L3.bY h L3.bg) L3.bg)) L3.bg)) rfl (L3.gp.trans Mj) tA
  exact key _ T3
end
theorem tF{P:G}{c:Ctx}{lo:Lo}{s s':St}(h:Mp.s.nH lo s=some s'):v8 (mT lo s)=true/\Rf P c lo s s':=by
 unfold Mp.s.nH at h;cases k:v8 (mT lo s) with
 |false=>rw[k] at h;exact ns h|true=>
  rw[k] at h;refine⟨rfl,PD h▸?_⟩;have v1:∀t,dE P (.vr 171) c lo t=_:=λt=>L3.ai (k1 k);have v2:∀t,dE P (.vr 173) c lo t=_:=λt=>L3.ai (k2 k);have T1:ea (dE P (.or [.cmp .gt (.vr 171) (.vr 173),.and [.cmp .eq (.vr 171) (.vr 173),.cmp .eq (.vr 172) (.str [114,105,103,104,116])]])) c lo (mt lo s)=.ok (jL (Fg lo) (Dy lo) (F6 lo)) (mt lo s):=L3.eK (J0 (L3.dU (v1 _) (v2 _) rfl) (xF (L3.dU (v1 _) (v2 _) rfl) (L3.dU (L3.ai (k3 k)) L3.aU rfl))) rfl;cases e:jL (Fg lo) (Dy lo) (F6 lo) with
  |true=>exact J6 k e rfl (e▸T1) λt=>L3.eK (Hv (k2 k)) rfl|false=>exact J7 k (e▸T1) (L3.eK (xF (L3.dU (v1 _) (v2 _) rfl) (L3.dU (L3.ai (k3 k)) L3.aU rfl)) rfl) (L3.eK (xF (Hv (k1 k)) (Hv (k2 k))) rfl)
theorem Av{S:SI}{P:G}{fns:List Addr}{ct:CT}(F:g9 S P fns {ct with mg:=λ_ _ _=>false} vm){hN:Bool}{sc:Sc}{st:Stmt}(h:Cn P fns ct hN sc st=true){n:Nat}{ctx:Ctx}(hF:iy S fns n ctx.call)(hO:cR ctx.call):fe S hN n sc ctx Mp.s.j8 st:=λA g s sh lo env p=>by
 unfold Mp.s.j8;cases hm:Mp.s.nH lo s with
 |none=>trivial|some s'=>
  obtain⟨k,sB,bs',h2,h3,h4,h5,h6⟩:=tF (P:=P) (c:=ctx) hm;have h1:=yV (Mm k);have r0:aD S g (mt lo s) sh:=p.r.Ht rfl λi=>by
   unfold mt;rw[St.cF];split
   .rename_i e;subst e;rcases h1 with z|z
    .exact .inl z.symm
    .exact .inr (bQ _ _ z rfl (λa q=>q))
   .exact .inl rfl
  have w:=Ev.get h S n ctx ⟨F,λ_=>hF,hO⟩ A g _ sh lo env {p with r:=r0};replace w:=h2▸w;exact λQ Ex k=>w Q Ex λg' sh' a e r q=>k g' sh' a e (r.Ht h3.symm λi=>by
   by_cases hi:i=mC lo s
   .rw[hi];exact .inr (bQ _ _ h5 h4 (λa q=>q))
   .exact .inl (h6 i hi).symm) q
noncomputable def fg (P:G) (dfs:List DF) (lds:List LD):List Fn:=dfs.map (·.fn P)++lds.map (·.fn P)
noncomputable def tG (dfs:List DF) (lds:List LD):List Nat:=(RA lds.length).map (dfs.length+ ·)
noncomputable def kG (ct:CT) (P:G) (fz:List Str) (cS:Str->Option (Addr×Str)) (envs:List Str) (fns cls:List Addr) (dfs:List DF) (lds:List LD) (K:Frag) (gv:Str->Option Value):Bool:=
 vn ct P fns cls K gv&&(jY fns (λf fa=>dF (λd=>FF ⟨P,fns,ct,pj P fns ct fz lds envs⟩ fz cS K fa d) dfs[f]?)&&
 lds.all (λd=>(d.du++d.ps).all (λx=>decide (x<ct.nm.length))&&decide ((d.du++d.ps).Nodup)))
section
variable{S:SI}{P:G}{fns:List Addr}{ct:CT}{dfs:List DF}{lds:List LD}{envs:List Str}{gv:Str->Option Value}
theorem pC(hg:∀y v,gv y=some v->S.cQ y=some v)(hn:ct.nm=S.nm)(hm:ct.mg=Cn P fns ct)(hl:P.nC=S.r9)
  (h1:S.kS=Ce P fns ct lds) (h2:S.iW=pk lds) (h4:∀m∈envs,∃c T q,pf S m c T q) (h:kG ct P S.fz S.cS envs fns S.cls dfs lds S.K gv=true):
  g9 S P fns ct (pj P fns ct S.fz lds envs)/\∀(f:Nat) (fa:Addr),fns[f]?=some fa->∃d:DF,dfs[f]?=some d/\∃fd body sc,zW S fns fa (d.fn P) fd body sc/\(gA ⟨P,fns,ct,pj P fns ct S.fz lds envs⟩ true sc d.body body).ok=true:=by
 have F0:g9 S P fns {ct with mg:=λzz zz zz=>false} vm:=vp (ct:={ct with mg:=λzz zz zz=>false}) hg hn hl (λzz zz zz zz zz zz h=>ft h) (λzz zz zz h=>ft h) (aj h);have F:=vp hg hn hl (λsc k xs ps body scope h=>Ar h1 h2 hn h4 h) (λhN sc st q n ctx hF hO=>Av F0 (by rw[hm] at q;exact q) hF hO) (aj h);exact⟨F,λf fa hf=>aX (lI (aj (ab h)) hf) λd hd h=>ag d hd (Cd (q:=⟨P,fns,ct,pj P fns ct S.fz lds envs⟩) F h)⟩
theorem Cq{f:Nat}{d:DF}{fn:Fn}(h:aZ (fg P dfs lds) f=some fn)(hd:dfs[f]?=some d):fn=d.fn P:=by rw[bz] at h;have hlt:f<(dfs.map (·.fn P)).length:=(P9 _).symm▸(PX.mp hd).1;exact PD (h.symm.trans ((List.getElem?_append_left hlt).trans (Qt.trans (congrArg _ hd))))
theorem Cr{k f:Nat}{fn:Fn}(hk:aZ (tG dfs lds) k=some f)(h:aZ (fg P dfs lds) f=some fn):∃d,lds[k]?=some d/\fn=d.fn P:=by
 rw[bz] at hk h;refine aa (Qk.mp (Qt.symm.trans hk)) λi e1 e2=>?_;obtain⟨q1,q2⟩:=PX.mp e1;have hi:k=i:=(List.getElem_range q1).symm.trans q2;have e:(fg P dfs lds)[f]?=(lds.map (·.fn P))[k]?:=by rw[<-e2,<-hi];have hl:(dfs.map (·.fn P)).length=dfs.length:=P9 _;refine(List.getElem?_append_right (hl.symm▸Qz _ _)).trans ?_;rw[hl,QU]
 exact aa (Qk.mp (Qt.symm.trans (e.symm.trans h))) λd e1 e2=>ag d e1 e2.symm
theorem Cs(hg:∀y v,gv y=some v->S.cQ y=some v)(hn:ct.nm=S.nm)(hm:ct.mg=Cn P fns ct)(hl:P.nC=S.r9)(hlf:S.r9=tG dfs lds)
  (h1:S.kS=Ce P fns ct lds) (h2:S.iW=pk lds) (h4:∀m∈envs,∃c T q,pf S m c T q) (h:kG ct P S.fz S.cS envs fns S.cls dfs lds S.K gv=true):∀n,iy S fns n (run (fg P dfs lds) n):=by
 have F:=pC hg hn hm hl h1 h2 h4 h;refine sW (λf fa fn hf hfn=>?_) λk f fn hk hfn=>?_
 .refine aa (F.2 f fa hf) λd hd q=>?_;refine fY q λfd body sc k zz=>?_;exact nJ fd body sc (Cq hfn hd▸k)
 .refine aa (Cr (hlf▸hk) hfn) λd hd e=>?_;have k4:=gE (ab (ab h)) (P7 hd);exact gb _ _ (e▸EA F.1 h1 h2 hd (Cc hn (aj k4)) (dd (ab k4)))
end
structure LE where
 mark:Str
 code:Addr
 fC:Addr
 qual:Str
structure PT where
 ct:CT
 fns:List Addr
 cls:List Addr
 dfs:List DF
 lds:List LD
 lK:List LE
 fz:List Str
noncomputable def PT.cS (t:PT) (m:Str):Option (Addr×Str):=(t.lK.find? λe=>e.mark==m).map λe=>(e.code,e.qual)
noncomputable def PT.wg (t:PT) (P:Addr):Str:=((t.lK.find? λe=>e.fC==P).map λe=>e.qual++("<lambda>":Str)).getD (⟨#[]⟩:Str)
noncomputable def xG (c9:List Addr) (K:Frag):Frag:=K.filter λp=> !c9.contains p.1
theorem gB{c9:List Addr}{a:Addr}{o:Obj}:∀ {K:Frag},(xG c9 K).lookup a=some o->K.lookup a=some o/\a∉c9
 |[],h=>ns h|(b,ob)::K,h=>by
  unfold xG at h;rw[List.filter_cons] at h;rw[Qi];refine cy (c9.contains b) (λhp=>?_) λhp=>?_
  .rw[hp] at h;replace h:=Qi.symm.trans (h:List.lookup a ((b,ob)::xG c9 K)=some o);refine cy (a==b) (λha=>?_) λha=>?_
   .rw[ha] at h⊢;exact gB (K:=K) h
   .rw[ha] at h⊢;exact⟨h,λm=>ft (hp.symm.trans (List.contains_iff_mem.mpr (eq_of_beq ha▸m)))⟩
  .rw[hp] at h;have hz0:=(gB (K:=K) h);have ha:(a==b)=false:=cy (a==b) id λha=>(hz0.2 (eq_of_beq ha▸v9 hp)).elim;rw[ha];exact⟨hz0.1,hz0.2⟩
noncomputable def PT.si (t:PT) (P:G) (prog:Program) (w:World) (K:Frag) (mg mb:Str->Option Value) (s:Shared):SI:=
 {prog,w,h0:=s.heap,c9:=t.lK.map (·.fC),nm:=t.ct.nm,cls:=t.cls,kS:=Ce P t.fns t.ct t.lds,iW:=pk t.lds,gens:=s.gens,drawn:=s.drawn,os:=s.os,K:=xG (t.lK.map (·.fC)) K,mg,mb,
  wg:=t.wg,fz:=t.fz,cS:=t.cS,r9:=tG t.dfs t.lds}
noncomputable def Nh (d:Data):Option (Array DictEntry):=match d with|.dict es _=>some es|_=>none
theorem Hz{d:Data}{es:Array DictEntry}{es':Array DictEntry}{n:Nat}(h:Nh d=some es)(e:d=.dict es' n):es'=es:=by rw[e] at h;exact PD h
noncomputable def Pl (es:Array DictEntry) (y:Str):Option Value:=(nsFind es y).or (if y="__name__" then none else bootBuiltins y)
noncomputable def Ii (K:Frag) (y:Str):Option Value:=(K.lookup mainGlobals).bind λob=>(Nh ob.data).bind λes=>Pl es y
noncomputable def Ct (K:Frag) (P:Addr):Bool:=dF (λob=>decide (ob.cls=.none)&&(ob.dict.isNone&&(ob.slots.isEmpty&&dF (λvs=>vs.isEmpty) (MT ob.data)))) (K.lookup P)
noncomputable def j0 (t:PT) (K:Frag):Bool:=t.lK.all λe=>Ct K e.fC&&(codeHdIn K e.code e.fC&&(decide (t.cS e.mark=some (e.code,e.qual))&&(decide (t.wg e.fC=e.qual++"<lambda>")&& !(t.lK.map (·.fC)).contains e.code)))
theorem Aw{K:Frag}{P:Addr}{h:Heap}(hK:K.In h)(q:Ct K P=true):h.get? P=some {cls:=.none,data:=.fields #[]}:=by refine aX q λob hk q=>?_;obtain⟨a,b,c,d⟩:=ob;obtain rfl:a=.none:=dd (aj q);obtain rfl:b=none:=QY.mp (aj (ab q));obtain rfl:d= #[]:=Array.isEmpty_iff.mp (aj (ab (ab q)));refine aX (ab (ab (ab q))) λvs h1 h2=>?_;obtain rfl:c=.fields vs:=Gb h1;exact(Array.isEmpty_iff.mp h2)▸hK _ _ hk
section
variable{prog:Program}{w:World}{K:Frag}{mg mb:Str->Option Value}{s:Shared}{t:PT}{p:Program}{loose:List Str}{mean:ExcName->Option Value}
theorem xH{P:G}(hK:K.In s.heap)(T:Top p loose mean mg mb s.heap):∀y v,Ii K y=some v->(t.si P prog w K mg mb s).cQ y=some v:=λy v h=>by
 refine aa (PV.mp h) λob hk h=>?_;refine aa (PV.mp h) λes he h=>?_;refine eD T.g λo es' ep h1 h2 zz h3=>?_;obtain rfl:=Hz he (PD ((hK _ _ hk).symm.trans h1)▸h2);have h3:=h3 y;refine(?_:(match mg y with|some v=>some v|none=>mb y)=some v);refine cJ (mg y) (λe=>?_) λu e=>?_
 .rw[e];replace h:=(congrArg (λz=>Option.or z _) (h3.trans e)).symm.trans h;exact QN (λhy:y="__name__"=>ns ((if_pos hy).symm.trans h)) λhy=>(T.builtins y hy).trans ((if_neg hy).symm.trans h)
 .rw[e];exact(congrArg (λz=>Option.or z _) (h3.trans e)).symm.trans h
theorem nu(hK:K.In s.heap)(hl:j0 t K=true):∀a∈t.lK.map (·.fC),s.heap.get? a=some {cls:=.none,data:=.fields #[]}:=λa m=>
 aa (QB.mp m) λe he z=>z▸Aw hK (aj (gE hl he))
theorem Ax{P:G}(hK:K.In s.heap)(T:Top p loose mean mg mb s.heap)(hnd:t.ct.nm.Nodup)(hl:j0 t K=true)(hsys:∃o,s.heap.get? sysModules=some o)(h1:mainGlobals∉t.lK.map (·.fC))(h2:builtinsNs∉t.lK.map (·.fC))(h3:cStatics∉t.lK.map (·.fC)):
  aD (t.si P prog w K mg mb s) ⟨[],[]⟩ ⟨.nil,0⟩ s:=
 {ok:=⟨λa m=>⟨_,nu hK hl a m⟩,hnd,T.g,h1,T.b,h2,T.nolimit,h3,λa o q=>hK a o (gB q).1,λa o q=>(gB q).2,hsys⟩
  len:=rfl
  nd:=List.nodup_nil
  bc:=λi a h=>ns h
  so:=λi o h=>ns h
  bH:=λc m=>nomatch m
  base:=λa o h zz=>h
  jM:=λa m=>nomatch m
  jN:=λa m=>nomatch m
  fC:=λa m=>cZ _ _ (nu hK hl a m) rfl trivial (λpos c h=>ns h)
  gens:=rfl
  drawn:=rfl
  os:=rfl}
theorem Cu{P:G}(hK:K.In s.heap)(T:Top p loose mean mg mb s.heap)(hl:j0 t K=true):∀m∈t.lK.map (·.mark),∃c T0 q,pf (t.si P prog w K mg mb s) m c T0 q:=λm hm=>by
 refine aa (QB.mp hm) λe he z2=>?_;clear hm;obtain rfl:=z2;have q:=gE hl he;refine AJ T.bmain λbm ob b1 b2 b3 b4 b5 b6=>?_;have nt:bm∉t.lK.map (·.fC):=λz=>nomatch ((congrArg Obj.data (PD ((nu hK hl bm z).symm.trans b3)):Data.fields #[]=_)).trans b6;have m:=Q5 (f:=(·.fC)) he;refine nJ e.code e.fC e.qual ⟨dd (aj (ab (ab q))),codeHd_of_K hK (aj (ab q)),Ft (r4 q),m,dd (aj (ab (ab (ab q)))),(IF bm ob b1 b2 (λz=>?_) (λz=>nt (z▸m)) b3 b4 b5 b6),λbm' hb=>?_⟩
 .exact gQ T.g λo es ep k1 k2 zz=>nomatch ((k2.symm.trans (congrArg Obj.data (PD (k1.symm.trans ((congrArg _ z.symm).trans b3)))):Data.dict es ep=_)).trans b6
 .exact Qq (PD (b1.symm.trans hb))▸nt
end
section
noncomputable def vy (i:Nat) (l:List Nat):Option Nat:=@QA Nat (λzz=>Option Nat) .none (λa zz ih=>PS (@Option.rec Nat (λzz=>Option Nat) .none (λj=>some (j+1)) ih) (some 0) (P8 a i)) l
mutual
noncomputable def qr (m:List Nat):V->Option V
 |.none=>some .none|.bool b=>some (.bool b)|.int i=>some (.int i)|.str x=>some (.str x)|.av vs=>match fT m vs with|some ws=>some (.av ws)|none=>none
 |.ar i=>(vy i m).map .ar|.bc c d=>(vy d m).map (.bc c)|.qE _ _=>none|.cX _=>none
termination_by structural x=>x
noncomputable def fT (m:List Nat):List V->Option (List V)
 |[]=>some []|v::vs=>match qr m v with
  |some v'=>(match fT m vs with|some ws=>some (v'::ws)|none=>none)|none=>none
termination_by structural x=>x
end
theorem vz(m:List Nat)(vs:List V):qr m (.av vs)=(fT m vs).map .av:=by dsimp only[qr];cases fT m vs<;>rfl
theorem iE(m:List Nat)(v:V)(vs:List V):fT m (v::vs)=(qr m v).bind λv'=>(fT m vs).map (v':: ·):=by
 dsimp only[fT];cases qr m v with
 |none=>rfl|some v'=>cases fT m vs<;>rfl
noncomputable def tH (m:List Nat):O->Option O
 |.list vs=>(fT m vs).map .list|.dict es=>(fT m (es.map (·.2))).map λws=>.dict ((es.map (·.1)).zip ws)|.set ss=>some (.set ss)|.ns fs=>(fT m (fs.map (·.2))).map λws=>.ns ((fs.map (·.1)).zip ws)|_=>none
noncomputable def qw {α β:Type} (f:α->Option β):List α->Option (List β)
 |[]=>some []|a::as=>(f a).bind λb=>(qw f as).map (b:: ·)
noncomputable def tI (os:List O):St:=os.foldl St.new ⟨.nil,0⟩
noncomputable def tJ:List Nat->Bool
 |[]=>true|a::as=> !as.contains a&&tJ as
noncomputable def lL (ys m:List Nat) (lo:Lo) (s:St):Option (Lo×St):=
 (J8 (tJ m)).bind λzz=>(qw (λi=>(s.get i).bind (tH m)) m).bind λos=>(qw (λy=>((ao lo y).bind (qr m)).map λv=>(y,v)) ys).map λlo2=>(lo2,tI os)
where J8 (b:Bool):Option Unit:=if b then some () else none
end
theorem rI{i j:Nat}:∀ {l:List Nat},vy i l=some j->l[j]?=some i
 |[],h=>by exact ns h
 |a::l,h=>by
  have e:vy i (a::l)=@PS (λzz=>Option Nat) (@Option.rec Nat (λzz=>Option Nat) .none (λj=>some (j+1)) (vy i l)) (some 0) (P8 a i):=rfl;replace h:=e.symm.trans h;cases z:P8 a i with
  |true=>rw[z] at h;injection h with h;subst h;refine(Q8 z).symm▸?_;rfl
  |false=>
   rw[z] at h;refine cJ (vy i l) (λy=>?_) λk y=>?_
   .rw[y] at h;exact ns h
   .rw[y] at h;injection h with h;subst h;refine(?_:l[k]?=some i);exact rI y
theorem rJ{α β:Type}{f:α->Option β}:∀ {as:List α} {bs:List β},qw f as=some bs->bs.length=as.length/\∀(i:Nat) (a:α),as[i]?=some a->∃b,bs[i]?=some b/\f a=some b:=by
 intro as;induction as with
 |nil=>exact λh=>PD h▸⟨rfl,λi a h=>ns h⟩|cons a as ih=>
  intro bs h;unfold qw at h;refine aa (PV.mp h) λb h1 h2=>?_;refine aa (Qk.mp h2) λbs' h3 e=>?_;have k:=ih h3;refine e▸⟨congrArg Nat.succ k.1,λi x hx=>?_⟩;induction i with
  |zero=>exact PD hx▸⟨b,rfl,h1⟩|succ i=>exact k.2 i x hx
theorem vA:∀(os:List O) (s:St),(os.foldl St.new s).n=s.n+os.length/\∀j,(os.foldl St.new s).get j=if j<s.n then s.get j else if j<s.n+os.length then os[j-s.n]? else s.get j:=by
 intro os;induction os with
 |nil=>exact λs=>⟨rfl,λj=>QN (λh:j<s.n=>(if_pos h).symm) λh=>((if_neg h).trans (if_neg h)).symm⟩|cons o os ih=>
  intro s;have k:=ih (s.new o);refine⟨k.1.trans (RC _ _ _),λj=>(k.2 j).trans ?_⟩;rw[St.gk];clear k ih;refine QN (λc1:j<s.n=>?_) λc1=>?_
  .rw[if_pos c1,if_neg (Qw c1)];exact if_pos (Qy c1)
  .rw[if_neg c1];refine QN (λc2:j=s.n=>?_) λc2=>?_
   .rw[if_pos c2,c2];exact(if_pos (P1 _)).trans ((if_pos (Nat.lt_add_of_pos_right (RK _))).trans (congrArg ((o::os)[·]?) (Nat.sub_self _))).symm
   .rw[if_neg c2];have c3:s.n+1<=j:=Nat.lt_of_le_of_ne (Nat.le_of_not_lt c1) (Ne.symm c2);refine(if_neg (Q4 c3)).trans ?_;obtain⟨i,e⟩:=Rt c3;refine ite_congr (congrArg (j< ·) (RC _ _ _)) (λzz=>?_) λzz=>rfl;rw[e,show s.n+1+i-s.n=i+1 from by rw[Nat.add_assoc,QU,Nat.add_comm],];exact congrArg (os[·]?) (QU _ _)
theorem Cv(os:List O):(tI os).n=os.length:=by rw[show tI os=os.foldl St.new ⟨.nil,0⟩ from rfl,(vA os _).1];exact Nat.zero_add _
theorem vB(os:List O)(j:Nat):(tI os).get j=os[j]?:=by
 rw[show tI os=os.foldl St.new ⟨.nil,0⟩ from rfl,(vA os _).2 j,if_neg (Nat.not_lt_zero _)];simp only[Nat.zero_add,Nat.sub_zero];split
 .rfl
 .rename_i h;simp only[List.getElem?_eq_none (Nat.le_of_not_lt h)];rfl
theorem rK:∀ {l:List Nat},tJ l=true->l.Nodup
 |[],_=>List.nodup_nil|a::l,h=>by unfold tJ at h;simp only[QP] at h;exact Qv.mpr ⟨by simpa using h.1,rK h.2⟩
section
variable{S:SI}{g g' g'':Gh}{h h' h'':Heap}{X Y:List Addr}{s s':St}{sh sh':Shared}
noncomputable def Gh.gL (g:Gh) (m:List Nat):Gh:=⟨m.map λi=>g.ar.getD i 0,g.bH⟩
theorem Gh.Cw{m:List Nat}{i j:Nat}{a:Addr}(h1:vy i m=some j)(h2:g.ar[i]?=some a):(g.gL m).ar[j]?=some a:=by unfold Gh.gL;simp only[Qt,rI h1];refine(?_:some (g.ar.getD i 0)=_);rw[Qb,h2];rfl
mutual
theorem VR.gL{m:List Nat}:∀ {v v':V} {y:Value},qr m v=some v'->VR S g h v y->VR S (g.gL m) h v' y
 |.none,_,y,e,q=>PD (show some V.none=some _ from e)▸(show y=.none from q)|.bool b,_,y,e,q=>PD (show some (V.bool b)=some _ from e)▸(show y=.bool b from q)|.int b,_,y,e,q=>PD (show some (V.int b)=some _ from e)▸(show∃t,True/\y=.int b t from q)|.str b,_,y,e,q=>PD (show some (V.str b)=some _ from e)▸(show∃t,True/\y=.str (ak b) t from q)|.av vs,v',y,e,q=>by rw[vz] at e;obtain⟨ws,e1,rfl⟩:=Qk.mp e;obtain⟨a,xs,k1,k2,k3⟩:=q.cG;exact⟨a,xs,k1,k2,aI.gL e1 k3⟩
 |.ar i,v',y,e,q=>by obtain⟨j,e1,rfl⟩:=Qk.mp (show Option.map _ _=some v' from e);obtain⟨a,k1,k2⟩:=(show∃a,g.ar[i]?=some a/\y=.ref a from q);exact⟨a,Gh.Cw e1 k1,k2⟩
 |.bc c d,v',y,e,q=>by obtain⟨j,e1,rfl⟩:=Qk.mp (show Option.map _ _=some v' from e);obtain⟨a,da,ca,k1,k2,k3⟩:=(show∃a da ca,y=.ref a/\g.ar[d]?=some da/\S.cls[c]?=some ca/\h.get? a=some (instObj ca da) from q);exact⟨a,da,ca,k1,Gh.Cw e1 k2,k3⟩
 |.qE _ _,_,_,e,_=>nomatch (show none=some _ from e)|.cX _,_,_,e,_=>nomatch (show none=some _ from e)
theorem aI.gL{m:List Nat}:∀ {vs ws:List V} {ys:List Value},fT m vs=some ws->aI S g h vs ys->aI S (g.gL m) h ws ys
 |[],_,ys,e,q=>PD (show some []=some _ from e)▸(show ys=[] from q)|v::vs,ws,ys,e,q=>by rw[iE] at e;obtain⟨v',e1,e⟩:=PV.mp e;obtain⟨ws',e2,rfl⟩:=Qk.mp e;obtain⟨b,bs,k1,k2,k3⟩:=q.bI;exact⟨b,bs,k1,VR.gL e1 k2,aI.gL e2 k3⟩
end
mutual
theorem vC{m:List Nat}:∀ {v:V} {d:Nat},bV v d=true->qr m v=some v
 |.none,d,h=>rfl|.int _,d,h=>rfl|.str _,d,h=>rfl|.av vs,0,h=>by cases h
 |.av vs,d+1,h=>by rw[vz,rM h];rfl
 |.bool _,d,h=>by cases h
 |.ar _,d,h=>by cases h
 |.bc _ _,d,h=>by cases h
 |.qE _ _,d,h=>by cases h
 |.cX _,d,h=>by cases h
theorem rM{m:List Nat}:∀ {vs:List V} {d:Nat},bS vs d=true->fT m vs=some vs
 |[],d,h=>rfl|v::vs,d,h=>by obtain⟨h1,h2⟩:=(bL v vs d).mp h;rw[iE,vC h1,rM h2];rfl
end
theorem aC.gL{m:List Nat}{ks:List V}{es:List DictEntry}(q:aC S g h ks es):aC S (g.gL m) h ks es:=by
 induction q with
 |nil=>exact .nil|cons h1 h2 h3 _ ih=>exact .cons h1 (h2.gL (vC h3)) h3 ih
theorem cU.gL{m:List Nat}{fs:List (Nat×V)}{es:List DictEntry}(q:cU S g h fs es):∀ {ws:List V},fT m (fs.map (·.2))=some ws->cU S (g.gL m) h ((fs.map (·.1)).zip ws) es:=by
 induction q with
 |nil=>intro ws e;exact(PD e)▸ .nil|@cons x v e fs es t h1 h2 h3 _ ih=>intro ws e;rw[Qe,iE,PV] at e;obtain⟨v',e1,e⟩:=e;rw[Qk] at e;obtain⟨ws',e2,rfl⟩:=e;exact .cons h1 h2 (h3.gL e1) (ih e2)
theorem rN{m:List Nat}:∀ {vs ws:List V},fT m vs=some ws->ws.length=vs.length
 |[],ws,e=>by refine(PD e)▸?_;rfl
 |v::vs,ws,e=>by rw[iE,PV] at e;obtain⟨v',e1,e⟩:=e;rw[Qk] at e;obtain⟨ws',e2,rfl⟩:=e;simp[rN e2]
theorem OR.gL{m:List Nat}{o o':O}{a:Addr}(e:tH m o=some o')(q:OR S g h a o):OR S (g.gL m) h a o':=by
 induction o with
 |list vs=>unfold tH at e;rw[Qk] at e;obtain⟨ws,e1,rfl⟩:=e;refine a8 q λxs n h1 h2=>?_;exact bW xs n h1 (h2.gL e1)
 |dict es=>
  unfold tH at e;rw[Qk] at e;obtain⟨ws,e1,rfl⟩:=e;refine bK q λds n h1 h2 h3 h4=>?_;have l:=rN e1;simp only[P9] at l;have z1:((es.map (·.1)).zip ws).map (·.1)=es.map (·.1):=List.map_fst_zip (by simp;exact Qa l.symm);have z2:((es.map (·.1)).zip ws).map (·.2)=ws:=List.map_snd_zip (by simp;exact Qa l);refine cZ ds n h1 ?_ ?_ ?_
  .rw[z1];exact h2.gL
  .rw[z2];exact h3.gL e1
  .rw[z1];exact h4
 |set ss=>unfold tH at e;injection e with e;subst e;exact q|ns fs=>unfold tH at e;rw[Qk] at e;obtain⟨ws,e1,rfl⟩:=e;refine a8 q λds n h1 h2=>?_;exact bW ds n h1 (h2.gL e1)
 |view _ _=>unfold tH at e;exact ns e|dq _=>unfold tH at e;exact ns e
theorem aD.gL{m:List Nat}{os:List O}(r:aD S g s sh)(hn:m.Nodup)(hm:qw (λi=>(s.get i).bind (tH m)) m=some os):aD S (g.gL m) (tI os) sh:=by
 refine dw (rJ hm) λl k=>?_;have D2:∀i∈m,∃a o,g.ar[i]?=some a/\g.ar.getD i 0=a/\s.get i=some o:=λi hi=>by refine PW (PR.mp hi) λj hj=>?_;refine aa (k j i hj) λb zz h2=>?_;rw[PV] at h2;refine aa h2 λo h3 zz=>?_;have lt:=r.so i o h3;replace lt:=r.len.symm▸lt;refine bQ (g.ar[i]) o (PK lt) ?_ h3;rw[Qb,PK lt];rfl
 have az:∀a∈(g.gL m).ar,a∈g.ar:=λa ha=>by refine aa (QB.mp ha) λi hi z2=>?_;refine z2▸?_;refine aw (D2 i hi) λa o h1 h2 zz=>?_;simp only[h2];exact P7 h1
 exact {
  ok:=r.ok
  len:=by simp only[Cv,l];unfold Gh.gL;rw[P9]
  nd:=by unfold Gh.gL;unfold List.Nodup at hn⊢;rw[List.pairwise_map];refine List.Pairwise.imp_of_mem (λ {i j} hi hj hij e=>?_) hn;refine aw (D2 i hi) λa zz h1 h2 zz=>?_;refine aw (D2 j hj) λb zz h3 h4 zz=>?_;simp only[h2,h4] at e;subst e;have:=r.nd;obtain⟨l1,e1⟩:=PX.mp h1;obtain⟨l2,e2⟩:=PX.mp h3;exact hij ((List.getElem_inj this).mp (e1.trans e2.symm))
  bc:=λj a hj=>by
   unfold Gh.gL at hj;replace hj:=(Qt).symm.trans hj;refine cJ (m[j]?) (λz=>?_) λi z=>?_
   .rw[z] at hj;exact ns hj
   .replace hj:=z▸hj;refine aa (k j i z) λo' h1 h2=>?_;rw[PV] at h2;refine aa h2 λo h3 h4=>?_;refine aw (D2 i (P7 z)) λa' zz h5 h6 zz=>?_;have:a'=a:=by refine h6.symm.trans ?_;exact PD hj
    refine this▸?_;refine aa (r.bc i a' h5) λo2 h7 h8=>?_;rw[h3] at h7;obtain rfl:=PD h7;exact ag o' (by rw[vB];exact h1) (OR.gL h4 h8)
  so:=λj o hj=>by rw[vB] at hj;simp only[Cv];exact(PX.mp hj).1
  bH:=r.bH
  base:=r.base
  jM:=λa ha=>r.jM a (az a ha)
  jN:=r.jN
  fC:=r.fC
  gens:=r.gens
  drawn:=r.drawn
  os:=r.os}
theorem Gh.EG{m:List Nat}(hm:∀i∈m,i<g.ar.length):∀a∈(g.gL m).ar,a∈g.ar:=λa ha=>by refine aa (QB.mp ha) λi hi z2=>?_;refine z2▸?_;have lt:=hm i hi;simp only[Qb,PK lt];exact List.getElem_mem lt
theorem aG.gL{m:List Nat}{h0:Heap}{g0:Gh}(hg:g0.ar=[])(e1:aG S X g0 h0 g h)(hs:∀a∈(g.gL m).ar,a∈g.ar)(e2:aG S X (g.gL m) h g' h'):aG S X g0 h0 g' h' where
 ar:=by refine hg.symm▸?_;exact List.nil_prefix
 c7:=λa ha=>by
  rcases e2.c7 a ha with z|z
  .exact e1.c7 a (hs a z)
  .exact .inr (e1.dG z)
 bH:=λc hc=>e2.bH c (e1.bH c hc)
 dO:=λc hc=>by
  rcases e2.dO c hc with z|z
  .exact e1.dO c z
  .exact .inr (e1.dG z)
 live:=λa o ho=>by obtain⟨o',h1⟩:=e1.live a o ho;exact e2.live a o' h1
 pZ:=λa o ho hi=>e2.pZ a o (e1.pZ a o ho hi) hi
 cell:=λc o hc ho=>e2.cell c o (e1.bH c hc) (e1.cell c o hc ho)
 keep:=λa o ho h1 h2 h3 h4=>by
  refine e2.keep a o (e1.keep a o ho h1 h2 h3 h4) (λz=>?_) h2 h3 h4;refine QK (e1.c7 a (hs a z)) (λy=>?_) λy=>?_
  .exact h1 y
  .replace ho:=y.symm.trans ho;exact ns ho
 c8:=λa o ho h1 h2 h3=>by
  obtain⟨sl,k⟩:=e1.c8 a o ho h1 h2 h3;obtain⟨sl',k'⟩:=e2.c8 a _ k (λz=>by
   refine QK (e1.c7 a (hs a z)) (λy=>?_) λy=>?_
   .exact h1 y
   .replace ho:=y.symm.trans ho;exact ns ho) h2 h3
  exact⟨sl',k'⟩
theorem bX.gL{hN:Bool}{n:Nat}{sc:Sc}{A:Around}{lo lo2:Lo}{s2:St}{env:PM}{ys m:List Nat}(p:bX S hN n sc A g s sh lo env)(h:lL ys m lo s=some (lo2,s2)):bX S hN n sc A (g.gL m) s2 sh lo2 env/\∀a∈(g.gL m).ar,a∈g.ar:=by
 unfold lL at h;rw[PV] at h;obtain⟨u,h1,h⟩:=h;rw[PV] at h;obtain⟨os,h2,h⟩:=h;rw[Qk] at h;obtain⟨lo',h3,h4⟩:=h;obtain⟨rfl,rfl⟩:=RW h4;have hn:m.Nodup:=by
  unfold lL.J8 at h1;split at h1
  .rename_i z;exact rK z
  .exact ns h1
 refine dw (rJ h2) λl k=>?_;have hs:∀a∈(g.gL m).ar,a∈g.ar:=Gh.EG λi hi=>by obtain⟨j,hj⟩:=PR.mp hi;refine aa (k j i hj) λb _ h2=>?_;rw[PV] at h2;refine aa h2 λo h5 _=>?_;have lt:=p.r.so i o h5;rwa[<-p.r.len] at lt
 refine⟨{p with vW:=p.vW.up λc hc=>hc,DM:=p.DM,e:=?_,r:=p.r.gL hn h2,l:=?_},hs⟩
 .exact {p.e with qN:=λz=>p.e.qN (hs _ z),cells:=λc hc=>⟨λz=>(p.e.cells c hc).1 (hs _ z),(p.e.cells c hc).2⟩}
 .refine aa p.l λmm q1 q2=>?_;refine ag mm q1 (λx v hx=>?_);have fnd:∀ {ys:List Nat} {lo2:Lo},qw (λy=>((ao lo y).bind (qr m)).map λv=>(y,v)) ys=some lo2->ao lo2 x=some v->∃v0,ao lo x=some v0/\qr m v0=some v:=λ {ys}=>by
   induction ys with
   |nil=>intro lo2 e hx;obtain rfl:=PD e;exact ns hx
   |cons y ys ih=>
    intro lo2 e hx;unfold qw at e;rw[PV] at e;obtain⟨b,e1,e⟩:=e;rw[Qk] at e1 e;obtain⟨v1,e2,rfl⟩:=e1;obtain⟨lo3,e3,rfl⟩:=e;have z:ao ((y,v1)::lo3) x=@PS (λ_=>Option V) (ao lo3 x) (some v1) (P8 y x):=rfl;rw[z] at hx;refine cy (P8 y x) (λw=>?_) λw=>?_
    .rw[w] at hx;exact ih e3 hx
    .rw[w] at hx;refine(PD hx)▸?_;have:=Q8 w;refine this▸?_;rw[PV] at e2;exact e2
  refine aa (fnd h3 hx) λv0 k1 k2=>?_;refine dw (q2 x v0 k1) λz1 z2=>?_;refine⟨z1,?_⟩;split at z2
  .obtain⟨y,w1,w2⟩:=z2;exact⟨y,w1,w2.gL k2⟩
  .obtain⟨c,y,w0,w1,w2⟩:=z2;exact⟨c,y,w0,w1,w2.gL k2⟩
  .obtain⟨c,y,w0,w1,w2⟩:=z2;exact⟨c,y,w0,w1,w2.gL k2⟩
  .trivial
end
inductive pD:O->O->Prop
 |view {es vs:List (V×V)} {d:V}:(∀k v,aE vs k=some v->aA k=true->aE es k=some v\/(aE es k=.none/\v=d))->pD (.dict es) (.view vs d)|J9 {bs:List (Bool×V)}:pD (.dq bs) (.list (bo bs))
inductive tK (P:G) (ctx:Ctx):List Mp.S->Lo->St->V->St->Prop
 |next {x:Mp.S} {xs:List Mp.S} {lo lo1:Lo} {s s1 s':St} {v:V}:dS P x ctx lo s=.ok (.next,lo1) s1->tK P ctx xs lo1 s1 v s'->tK P ctx (x::xs) lo s v s'|ret {x:Mp.S} {xs:List Mp.S} {lo lo1:Lo} {s s':St} {v:V}:dS P x ctx lo s=.ok (.ret v,lo1) s'->tK P ctx (x::xs) lo s v s'|base {xs:List Mp.S} {lo lo2:Lo} {s s2 s':St} {v:V} (ys m:List Nat):lL ys m lo s=some (lo2,s2)->tK P ctx xs lo2 s2 v s'->tK P ctx xs lo s v s'|Bs {xs:List Mp.S} {lo:Lo} {s s':St} {v:V} (s1:St):s1.n=s.n->(∀i,s1.get i=s.get i\/∃o o',s.get i=some o/\s1.get i=some o'/\pD o o')->tK P ctx xs lo s1 v s'->tK P ctx xs lo s v s'
theorem tK.Cy{P:G}{ctx:Ctx}{ys:List Mp.S}{lo1:Lo}{s1 s':St}{v:V}(b:tK P ctx ys lo1 s1 v s'):∀ {xs:List Mp.S} {lo:Lo} {s:St},block (dM P xs) ctx lo s=.ok (.next,lo1) s1->tK P ctx (xs++ys) lo s v s'
 |[],lo,s,h=>by simp only[dM] at h;have e:block [] ctx lo s=.ok (.next,lo) s:=rfl;replace h:=e.symm.trans h;cases h;exact b
 |x::xs,lo,s,h=>by
  simp only[dM] at h;have e:block (dS P x::dM P xs) ctx lo s=(dS P x ctx lo s).bind λr s=>match r.1 with
   |.next=>block (dM P xs) ctx r.2 s|_=>.ok r s:=rfl
  replace h:=e.symm.trans h;cases z:dS P x ctx lo s with
  |no w=>replace h:=z▸h;exact kW h|ez k w=>replace h:=z▸h;exact Fl h|ok r s2=>
   replace h:=z▸h;obtain⟨f,lo2⟩:=r;induction f with
   |next=>exact .next z (tK.Cy b h)|brk=>cases h
   |cont=>cases h
   |ret _=>injection h with h;cases h
section
variable{S:SI}{g g' g'':Gh}{h h' h'':Heap}{X Y:List Addr}{s s':St}{sh sh':Shared}{A:Around}{n:Nat}
theorem pD.or{o o':O}{a:Addr}(w:pD o o')(q:OR S g h a o):OR S g h a o':=by
 induction w with
 |@view es vs d k=>refine mZ q λds n hz0=>?_;exact Fp es ds n hz0.1 hz0.2.1 hz0.2.2.1 hz0.2.2.2.1 hz0.2.2.2.2 k
 |J9=>exact q
theorem FG{q:Qc}{hN:Bool}{X Y Z:SI->Nat->Ctx->Prop}{x:Gv q hN X}{y:Gv q hN Y}{f}(h:(a2 (Z:=Z) x y f).ok=true):x.ok=true/\y.ok=true:=by
 induction x with
 |no=>exact ft h|yes a=>induction y with
  |no=>exact ft h|yes b=>exact⟨rfl,rfl⟩
theorem EH{P:G}{fns:List Addr}{ct:CT}{iP:vj}{ctx:Ctx}{sc:Sc}(F:g9 S P fns ct iP)(hF:iy S fns n ctx.call)(hO:cR ctx.call){xs:List Mp.S}{lo:Lo}{v:V}(b:tK P ctx xs lo s v s'):
  ∀ {sts:List Stmt} {g g0:Gh} {sh:Shared} {h0:Heap} {env:PM},g0.ar=[]->(gA ⟨P,fns,ct,iP⟩ true sc xs sts).ok=true->aG S (FX env) g0 h0 g sh.heap->bX S true n sc A g s sh lo env->
  ∀(Q:PySem.Flow->Shared->Prop) (Ex:Ec),(∀g' sh' f,aG S (FX env) g0 h0 g' sh'.heap->aD S g' s' sh'->nY S g' sh'.heap (.ret v) f->Q f sh')->wpAny S.M A (execs sts env) Q Ex sh:=by
 induction b with
 |@next x xs lo lo1 s s1 s' v hx _ ih=>
  intro sts g g0 sh h0 env hg hc e p Q Ex k;induction sts with
  |nil=>exact nomatch (show false=true from hc)|cons st sts'=>have hc:=FG (f:=λzz zz zz zz w ws=>wM w ws) hc;have w:=Ev.get hc.1 S n ctx ⟨F,λzz=>hF,hO⟩ A g s sh lo env p;simp only[hx] at w;refine wpAny_bind (w _ _ λg' sh' a e2 r2 q=>?_);obtain⟨q1,q2⟩:=q;cases q1;exact ih hg hc.2 (e.trans e2) (p.l5 e2 r2 q2) Q Ex k
 |@ret x xs lo lo1 s s' v hx=>
  intro sts g g0 sh h0 env hg hc e p Q Ex k;induction sts with
  |nil=>exact nomatch (show false=true from hc)|cons st sts'=>
   have hc:=FG (f:=λzz zz zz zz w ws=>wM w ws) hc;have w:=Ev.get hc.1 S n ctx ⟨F,λzz=>hF,hO⟩ A g s sh lo env p;simp only[hx] at w;refine wpAny_bind (w _ _ λg' sh' a e2 r2 q=>?_);obtain⟨q1,q2⟩:=q;cases q1 with
   |ret q=>exact wpAny_pure (k g' sh' _ (e.trans e2) r2 (.ret q))
 |base ys m hr _ ih=>intro sts g g0 sh h0 env hg hc e p Q Ex k;refine dw (p.gL hr) λp2 hs=>?_;exact ih hg hc (e.gL hg hs aG.refl) p2 Q Ex k
 |Bs s1 hn hw _ ih=>intro sts g g0 sh h0 env hg hc e p Q Ex k;exact ih hg hc e {p with r:=p.r.Ht hn λi=>(hw i).imp id λhq0=>aw hq0 λo o' h1 h2 h3=>bQ o o' h1 h2 (λa q=>h3.or q)} Q Ex k
theorem HA{fns:List Addr}{fa:Addr}{fn:Fn}{fd:FuncData}{body:List Stmt}{sc:Sc}(k:zW S fns fa fn fd body sc){vs:List V}{ys:List Value}{lo:Lo}{v:V}{s1:St}(hz:Mp.bindArgs fn.params fn.defaults vs=some lo)(aok:Dn S (n+1) A sh.heap)(r:aD S ⟨[],[]⟩ s sh)(q:aI S ⟨[],[]⟩ sh.heap vs ys)
  (hb:∀(A':Around) (env:PM) (sh1:Shared) (g0:Gh),g0.ar=[]->bX S true n sc A' g0 s sh1 lo env->∀(Q:PySem.Flow->Shared->Prop) (Ex:Ec),(∀g' sh' f,aG S (FX env) g0 sh1.heap g' sh'.heap->aD S g' s1 sh'->nY S g' sh'.heap (.ret v) f->Q f sh')->wpAny S.M A' (execs body env) Q Ex sh1):
  CF S A fa ys ⟨[],[]⟩ sh (.ok v s1):=by
 refine AK k.D2 λoc od osl hat=>?_;refine aa (mi r k.DZ) λds hds hdw=>?_;unfold Mp.bindArgs at hz;simp only[bx,eh,aJ,aJ,aJ] at hz;have hl:=kB hz;have hy:=q.length;have hd:=hds.length;rw[PH,Ra] at hl;have hpl:fd.params.args.length=fn.params.length:=by have:=congrArg List.length k.names;simpa using this
 have hnn:(fd.params.args.map (·.arg)).Nodup:=by simp only[k.names];exact kC r.ok.nm k.Dp k.pn
 have l1:ys.length<=fd.params.args.length:=by omega
 have l2:fd.params.args.length<=ys.length+ds.length:=by omega
 have hb':=oC (names:=fd.params.args.map (·.arg)) (ys:=ys) (ds:=ds) hnn (by simpa using l1) (by simpa using l2);rw[k.names,P9,<-hy,<-hd] at hb';refine dw (BR.zip (g:=⟨[],[]⟩) (h:=sh.heap) hz k.Dp (q.dZ (hds.drop _))) λbr bn=>?_;have hnd:(lo.map (·.1)).Nodup:=by simp only[bn];exact k.pn
 have kinds:=λb m=>by have:=br.mem b m;rw[bn] at this;exact k.ar _ this
 intro R hR;refine oi (o:=⟨oc,od,.func fd,osl⟩) (fd:=fd) (body:=body) (by have:=aok.depth;exact Ge this) (wD r _ _ hat) rfl (sT r) (codeRec_of (wD r) k.code) k.bd
  (binds:=(fn.params.map S.n).zip (ys++ds.drop (vs.length+fn.defaults.length-fn.params.length))) (λM A' E Q hq=>?_) k.qE (λx m=>?_) (λs₁ hin fa=>?_) k.co k.t5 k.kind
 .refine i9 (ds:=ds) k.plain hnn (hdw M A' E) l1 l2 ?_;rw[k.names,hb'];exact hq
 .rcases kinds x m with h|h
  .exact .inl h
  .refine .inr ⟨h,?_⟩;refine PW (eH fd.scope.names (sh.heap.objs.size+1) [] _ (.inl (bh h))) λc hm=>?_;exact congrArg _ (jU (cM _ _ _ (by simpa using k.sn)) hm)
 .obtain⟨e1,p1⟩:=oz (sc:=sc) r aok k.gl k.bl k.kind k.sn k.M8 br hnd kinds (λx hx hc=>(by
   obtain⟨h1,h2⟩:=k.M9 x hx hc;rw[<-br.names bn] at h2;refine aa (QB.mp h2) λb hb e=>?_;exact⟨h1,b,hb,e⟩)) k.IS hin fa
  refine hb _ _ _ _ rfl p1 _ _ λg' sh' f e2 r2 fq=>?_;have e2':aG S [] ⟨[],[]⟩ sh.heap g' sh'.heap:=(e1.nil.trans e2).eg λx hx=>.inr (by
   rcases PU.mp hx with rfl|hx
   .exact Qf (P5 _)
   .obtain⟨⟨y,c⟩,hm,rfl⟩:=QB.mp hx;exact Qf (Qg (hin.above y c hm)))
  cases fq with
  |ret h=>exact hR g' sh' _ e2' r2 h
end
section
variable{prog:Program}{w:World}{K:Frag}{mg mb:Str->Option Value}{s:Shared}{t:PT}{p:Program}{loose:List Str}{mean:ExcName->Option Value}
theorem Cz{P:G}(hK:K.In s.heap)(T:Top p loose mean mg mb s.heap)(hnd:t.ct.nm.Nodup)(hmg:t.ct.mg=Cn P t.fns t.ct)(hl:j0 t K=true)(hsys:∃o,s.heap.get? sysModules=some o)(h1:mainGlobals∉t.lK.map (·.fC))(h2:builtinsNs∉t.lK.map (·.fC))(h3:cStatics∉t.lK.map (·.fC))
  (hP:P.nC=tG t.dfs t.lds) (hc:kG t.ct P t.fz t.cS (t.lK.map (·.mark)) t.fns t.cls t.dfs t.lds (xG (t.lK.map (·.fC)) K) (Ii K)=true) {f:Nat} {fa:Addr} (hf:t.fns[f]?=some fa) {d:DF} (hd:t.dfs[f]?=some d) {vs:List V} {ys:List Value} (q:aI (t.si P prog w K mg mb s) ⟨[],[]⟩ s.heap vs ys)
  {lo:Lo} (hz:Mp.bindArgs d.params d.defaults vs=some lo) {v:V} {s':St} (hb:tK P ⟨1000,run (fg P t.dfs t.lds) 99⟩ d.body lo ⟨.nil,0⟩ v s') {Q:Ec} {Ex:Ec} (hq:∀g' sh' y,aG (t.si P prog w K mg mb s) [] ⟨[],[]⟩ s.heap g' sh'.heap->aD (t.si P prog w K mg mb s) g' s' sh'->VR (t.si P prog w K mg mb s) g' sh'.heap v y->Q y sh'):
  wpAny (model prog w) callerA (P6 (.ref fa) ys) Q Ex s:=by
 have r:=Ax (P:=P) (prog:=prog) (w:=w) hK T hnd hl hsys h1 h2 h3;have L8:=Cs (S:=t.si P prog w K mg mb s) (P:=P) (fns:=t.fns) (ct:=t.ct) (dfs:=t.dfs) (lds:=t.lds) (envs:=t.lK.map λe:LE=>e.mark) (gv:=Ii K) (xH hK T) rfl hmg hP rfl rfl rfl (Cu hK T hl) hc 99;refine dw (pC (S:=t.si P prog w K mg mb s) (P:=P) (fns:=t.fns) (ct:=t.ct) (dfs:=t.dfs) (lds:=t.lds) (envs:=t.lK.map λe:LE=>e.mark) (gv:=Ii K) (xH hK T) rfl hmg hP rfl rfl (Cu hK T hl) hc) λF fo=>?_;obtain⟨d',hd',fd,body,sc,k,hk⟩:=fo f fa hf;rw[hd] at hd';obtain rfl:=PD hd';have c:CF (t.si P prog w K mg mb s) callerA fa ys ⟨[],[]⟩ s (.ok v s'):=HA (n:=99) (s1:=s') (v:=v) k hz ⟨by decide,by decide,rfl,rfl,[],rfl,trivial,λen m=>by exact nomatch m⟩ r q λA' env sh1 g0 hg p1 Q Ex k'=>
  EH F L8 (wX _ 99) hb hg hk aG.refl p1 Q Ex k'
 exact wpAny_call (c _ λg' sh' y e r q=>hq g' sh' y e r q)
end
end
end Mp
namespace L3
open Mp
section
open PySem (Str)
open Mp (V O Tr St qF AH It G Cl Fn DF LD CT)
section
noncomputable def c0:Cl:=⟨[(174,.int 0),(132,.int 0)],[(1020,17),(1021,18),(100,19),(1022,20),(1023,21)],16⟩
noncomputable def c1:Cl:=⟨[],[(1020,23),(1021,24)],22⟩
noncomputable def c2:Cl:=⟨[],[(100,26),(1022,27),(1000,28),(1001,29),(1002,30),(1024,31),(1025,32),(1026,33),(1027,34),(1028,35),(1029,36),(1003,37),(1004,38),(1006,39),(1005,40)],25⟩
noncomputable def c3:Cl:=⟨[],[(1008,42),(1009,43),(1018,44),(1012,45),(1013,46),(1010,47),(1011,48),(1015,49),(1014,50),(1016,51),(1017,52),(1019,53),(1007,54)],41⟩
noncomputable def P:G:=⟨[c0,c1,c2,c3],[55,56,57,58],[(28,.int 9223372036854775807),(13,.str [97,98,99,100,101,102,103,104,105,106,107,108,109,110,111,112,113,114,115,116,117,118,119,120,121,122,65,66,67,68,69,70,71,72,73,74,75,76,77,78,79,80,81,82,83,84,85,86,87,88,89,90,48,49,50,51,52,53,54,55,56,57,95,45])]⟩
noncomputable def b0:List Mp.S:=[.bP (.bool true) [.ue] []]
noncomputable def f0:DF:=⟨[10],[],b0,none⟩
noncomputable def b1:List Mp.S:=[.ret (.and [.cmp .gt (.aS 0 [.vr 11]) (.int 0),.aS 6 [.comp (.cmp .mF (.vr 12) (.cQ 13)) [12] 0 [.vr 11] []]])]
noncomputable def f1:DF:=⟨[11],[],b1,none⟩
noncomputable def b2:List Mp.S:=[.cond (.or [.cmp .lt (.aS 0 [.vr 11]) (.int 3),.cmp .ne (.az (.vr 11) (.int 0)) (.az (.vr 11) (.neg (.int 1))),.cmp .mF (.az (.vr 11) (.int 0)) (.bN (.vr 11) (.int 1) (.neg (.int 1)) .none),.cmp .mF (.str [92]) (.vr 11),.cmp .mF (.str [10]) (.vr 11)]) [.stop] [],.ret (.bN (.vr 11) (.int 1) (.neg (.int 1)) .none)]
noncomputable def f2:DF:=⟨[11],[],b2,none⟩
noncomputable def b3:List Mp.S:=[.aq (.vr 16) (.dX .az (.aS 0 [.vr 14]) (.int 1)),.bP (.cmp .ge (.vr 16) (.int 0)) [.cond (.cmp .mF (.az (.vr 14) (.vr 16)) (.vr 15)) [.ret (.az (.vr 14) (.vr 16))] [],.j7 16 .az (.int 1)] [],.ret .none]
noncomputable def f3:DF:=⟨[14,15],[],b3,none⟩
noncomputable def b4:List Mp.S:=[.aq (.vr 20) (.dict [] []),.ba (.vr 21) 0 [.vr 17] [.aq (.az (.vr 20) (.vr 21)) (.int 0)] [],.aq (.vr 22) (.list []),.aq (.vr 23) (.dict [] []),.ba (.vr 21) 0 [.vr 17] [.cond (.cmp .eq (.az (.vr 20) (.vr 21)) (.int 0)) [.expr (.call 5 [.vr 21,.vr 20,.vr 22,.vr 23,.vr 17,.vr 18,.vr 19])] []] [],.ret (.vr 23)]
noncomputable def f4:DF:=⟨[17,18,19],[],b4,none⟩
noncomputable def b5:List Mp.S:=[.expr (.aH (.vr 22) 0 [.vr 21]),.aq (.vr 24) (.aS 0 [.vr 22]),.aq (.az (.vr 20) (.vr 21)) (.vr 24),.aq (.az (.vr 23) (.vr 21)) (.j6 19 [.vr 21]),.aq (.vr 25) (.j6 18 [.vr 21]),.ba (.vr 26) 0 [.vr 25] [.cond (.cmp .eq (.az (.vr 20) (.vr 26)) (.int 0)) [.expr (.call 5 [.vr 26,.vr 20,.vr 22,.vr 23,.vr 17,.vr 18,.vr 19])] [],.aq (.az (.vr 20) (.vr 21)) (.aS 3 [.az (.vr 20) (.vr 21),.az (.vr 20) (.vr 26)]),.ba (.vr 27) 0 [.aH (.vr 23) 2 [.vr 26,.list []]] [.cond (.cmp .dA (.vr 27) (.az (.vr 23) (.vr 21))) [.expr (.aH (.az (.vr 23) (.vr 21)) 0 [.vr 27])] []] []] [],.cond (.cmp .eq (.az (.vr 20) (.vr 21)) (.vr 24)) [.aq (.az (.vr 20) (.az (.vr 22) (.neg (.int 1)))) (.cQ 28),.aq (.az (.vr 23) (.az (.vr 22) (.neg (.int 1)))) (.az (.vr 23) (.vr 21)),.aq (.vr 29) (.aH (.vr 22) 1 []),.bP (.cmp .ne (.vr 29) (.vr 21)) [.aq (.az (.vr 20) (.az (.vr 22) (.neg (.int 1)))) (.cQ 28),.aq (.az (.vr 23) (.az (.vr 22) (.neg (.int 1)))) (.az (.vr 23) (.vr 21)),.aq (.vr 29) (.aH (.vr 22) 1 [])] []] []]
noncomputable def f5:DF:=⟨[21,20,22,23,17,18,19],[],b5,none⟩
noncomputable def b6:List Mp.S:=[.cond (.not (.vr 30)) [.ret (.av [])] [],.ret (.aS 9 [.comp (.av [.ah (.vr 31) 32,.ah (.vr 31) 33]) [31] 0 [.vr 30] []])]
noncomputable def f6:DF:=⟨[30],[],b6,none⟩
noncomputable def b7:List Mp.S:=[.ret (.list [.str [108,101,102,116],.str [114,105,103,104,116],.str [110,111,110,97,115,115,111,99]])]
noncomputable def f7:DF:=⟨[],[],b7,none⟩
noncomputable def b8:List Mp.S:=[.ret (.ite (.vr 34) (.aH (.vr 34) 1 [.int 0]) (.int 0))]
noncomputable def f8:DF:=⟨[34],[],b8,none⟩
noncomputable def b9:List Mp.S:=[.aq (.vr 35) (.dict [] []),.ba (.vr 36) 0 [.list [.str [97],.str [98],.str [111],.str [80]]] [.aq (.vr 37) (.dX .vV (.call 8 [.vr 34]) (.int 10)),.cond (.or [.cmp .lt (.vr 37) (.int 9),.cmp .eq (.vr 36) (.str [80])]) [.aq (.az (.vr 35) (.vr 36)) (.av [.az (.call 7 []) (.dX .vV (.vr 37) (.int 3)),.dX .fdiv (.vr 37) (.int 3)])] []] [],.ret (.vr 35)]
noncomputable def f9:DF:=⟨[34],[],b9,none⟩
noncomputable def Mn:List Mp.S:=[.cond (.cmp .eq (.az (.vr 38) (.int 1)) (.vr 39)) [.ret (.az (.dict [.str [108,101,102,116],.str [114,105,103,104,116],.str [110,111,110,97,115,115,111,99]] [.str [114,101,100,117,99,101],.str [115,104,105,102,116],.str []]) (.az (.vr 38) (.int 0)))] [],.ret (.ite (.cmp .gt (.vr 39) (.az (.vr 38) (.int 1))) (.str [115,104,105,102,116]) (.str [114,101,100,117,99,101]))]
noncomputable def Ni:DF:=⟨[38,39],[],Mn,none⟩
noncomputable def Ka:List Mp.S:=[.aq (.vr 41) (.str []),.aq (.vr 42) (.int 0),.bP (.and [.vr 34,.cmp .lt (.aS 0 [.vr 41]) (.int 9)]) [.aq (.vr 43) (.az (.str [97,97,98,98,111,99]) (.dX .vV (.call 8 [.vr 34]) (.int 6))),.aq (.vr 42) (.aS 4 [.int 0,.dX .add (.vr 42) (.aH (.dict [.str [111],.str [99]] [.int 1,.neg (.int 1)]) 2 [.vr 43,.int 0])]),.aq (.vr 41) (.dX .add (.vr 41) (.vr 43))] [],.ret (.dX .add (.vr 41) (.dX .mul (.str [99]) (.ite (.vr 40) (.vr 42) (.int 0))))]
noncomputable def Nj:DF:=⟨[34,40],[],Ka,none⟩
noncomputable def Ls:List Mp.S:=[.aq (.vr 45) (.comp (.vr 10) [10] 1 [.int 2,.aS 0 [.vr 6]] [.cmp .eq (.az (.vr 44) (.az (.az (.vr 6) (.vr 10)) (.int 0))) (.str [114,101,100,117,99,101])]),.aq (.vr 46) (.comp (.vr 47) [43,47] 0 [.vr 6] []),.cond (.vr 45) [.aq (.vr 46) (.dX .add (.list [.call 12 [.bN (.vr 6) .none (.az (.vr 45) (.neg (.int 1))) .none,.vr 44]]) (.bN (.vr 46) (.az (.vr 45) (.neg (.int 1))) .none .none))] [],.aq (.vr 48) (.az (.vr 46) (.neg (.int 1))),.ba (.vr 47) 0 [.bN (.bN (.vr 46) .none (.neg (.int 1)) .none) .none .none (.neg (.int 1))] [.aq (.vr 48) (.av [.vr 47,.vr 48])] [],.ret (.vr 48)]
noncomputable def Nk:DF:=⟨[6,44],[],Ls,none⟩
noncomputable def Ij:List Mp.S:=[.aq (.vr 6) (.list []),.bP (.cmp .mF (.bN (.vr 41) (.vr 49) (.dX .add (.vr 49) (.int 1)) .none) (.list [.str [97],.str [98],.str [111]])) [.aq (.vr 43) (.az (.vr 41) (.vr 49)),.cond (.and [.cmp .gt (.aS 0 [.vr 6]) (.int 1),.cmp .eq (.az (.vr 44) (.vr 43)) (.str [])]) [.ret (.av [.none,.vr 49])] [],.aq (.vr 47) (.vr 43),.cond (.cmp .eq (.vr 43) (.str [111])) [.aq (.av [.vr 50,.vr 49]) (.call 13 [.vr 41,.dX .add (.vr 49) (.int 1),.str [99],.vr 44]),.cond (.cmp .is (.vr 50) .none) [.ret (.av [.none,.vr 49])] [],.aq (.vr 47) (.av [.vr 50])] [],.expr (.aH (.vr 6) 0 [.av [.vr 43,.vr 47]]),.j7 49 .add (.int 1)] [],.cond (.or [.not (.vr 6),.cmp .ne (.bN (.vr 41) (.vr 49) (.dX .add (.vr 49) (.int 1)) .none) (.vr 40)]) [.ret (.av [.none,.vr 49])] [],.ret (.av [.call 12 [.vr 6,.vr 44],.vr 49])]
noncomputable def Nl:DF:=⟨[41,49,40,44],[],Ij,none⟩
noncomputable def Lu:List Mp.S:=[.aq (.vr 53) (.list [.int 0]),.aq (.vr 46) (.list []),.aq (.vr 49) (.int 0),.ba (.vr 54) 1 [.dX .add (.dX .mul (.int 4) (.aS 0 [.vr 41])) (.int 4)] [.aq (.vr 55) (.aH (.az (.ah (.vr 51) 56) (.az (.vr 53) (.neg (.int 1)))) 2 [.or [.bN (.vr 41) (.vr 49) (.dX .add (.vr 49) (.int 1)) .none,.str [36,101,110,100]]]),.cond (.cmp .is (.vr 55) .none) [.ret (.av [.none,.vr 49])] [],.cond (.cmp .eq (.vr 55) (.int 0)) [.ret (.av [.az (.vr 46) (.neg (.int 1)),.vr 49])] [],.cond (.cmp .gt (.vr 55) (.int 0)) [.expr (.aH (.vr 53) 0 [.vr 55]),.expr (.aH (.vr 46) 0 [.az (.vr 41) (.vr 49)]),.j7 49 .add (.int 1)] [.aq (.vr 57) (.aS 0 [.az (.vr 52) (.dX .az (.neg (.vr 55)) (.int 1))]),.aq (.vr 58) (.bN (.vr 46) (.neg (.vr 57)) .none .none),.aq (.vr 47) (.az (.dict [.int 1,.int 2,.int 3] [.az (.vr 58) (.int 0),.aS 9 [.vr 58],.aS 9 [.bN (.vr 58) (.int 1) (.int 2) .none]]) (.vr 57)),.aq (.vr 46) (.dX .add (.bN (.vr 46) .none (.neg (.vr 57)) .none) (.list [.vr 47])),.aq (.vr 53) (.bN (.vr 53) .none (.neg (.vr 57)) .none),.expr (.aH (.vr 53) 0 [.az (.az (.ah (.vr 51) 59) (.az (.vr 53) (.neg (.int 1)))) (.str [69])])]] [],.ret (.av [.none,.neg (.int 1)])]
noncomputable def Nm:DF:=⟨[51,52,41],[],Lu,none⟩
noncomputable def EI:List Mp.S:=[.aq (.vr 34) (.comp (.dX .vV (.vr 61) (.int 720720)) [61] 0 [.bN (.vr 60) .none (.int 16) .none] []),.aq (.vr 62) (.az (.list [.str [76,65,76,82],.str [83,76,82]]) (.dX .vV (.call 8 [.vr 34]) (.int 2))),.aq (.vr 35) (.call 9 [.vr 34]),.aq (.vr 63) (.dX .vV (.call 8 [.vr 34]) (.int 16)),.aq (.vr 64) (.cmp .gt (.dX .vV (.vr 63) (.int 4)) (.int 0)),.aq (.vr 65) (.dX .fdiv (.vr 63) (.int 4)),.aq (.vr 40) (.cmp .lt (.dX .vV (.call 8 [.vr 34]) (.int 3)) (.int 2)),.aq (.vr 41) (.call 11 [.vr 34,.vr 40]),.aq (.vr 52) (.list [.str [69,69],.str [97],.str [98],.str [111,69,99]]),.aq (.vr 52) (.dX .add (.bN (.vr 52) (.vr 65) .none .none) (.bN (.vr 52) .none (.vr 65) .none)),.aq (.vr 66) (.new 2 [.list [.str [97],.str [98],.str [111],.str [99]]]),.ba (.vr 36) 0 [.vr 35] [.expr (.aH (.vr 66) 1000 [.vr 36,.az (.az (.vr 35) (.vr 36)) (.int 0),.az (.az (.vr 35) (.vr 36)) (.int 1)])] [],.ba (.vr 67) 0 [.vr 52] [.expr (.aH (.vr 66) 1001 [.str [69],.dX .add (.aS 10 [.vr 67]) (.ite (.and [.vr 64,.cmp .eq (.vr 67) (.str [69,69])]) (.list [.str [37,112,114,101,99],.str [80]]) (.list []))])] [],.expr (.aH (.vr 66) 1002 [.str [69]]),.aq (.vr 51) (.new 3 [.vr 66,.vr 62]),.aq (.vr 38) (.ite (.vr 64) (.az (.vr 35) (.str [80])) (.av [.str [114,105,103,104,116],.int 0])),.aq (.vr 44) (.lT (.vr 43) (.call 10 [.vr 38,.az (.aH (.vr 35) 2 [.vr 43,.av [.str [114,105,103,104,116],.int 0]]) (.int 1)]) [43] 0 [.str [97,98,111]] []),.cond (.cmp .ne (.call 14 [.vr 51,.vr 52,.vr 41]) (.call 13 [.vr 41,.int 0,.str [],.vr 44])) [.ret (.bool false)] [],.aq (.vr 68) (.az (.az (.ah (.vr 51) 59) (.az (.az (.ah (.vr 51) 59) (.int 0)) (.str [69]))) (.str [69])),.aq (.vr 69) (.comp (.av [.vr 68,.vr 43,.az (.vr 44) (.vr 43)]) [43] 0 [.str [97,98,111]] [.and [.az (.vr 44) (.vr 43),.cmp .eq (.az (.vr 38) (.int 1)) (.int 0)]]),.ret (.and [.cmp .eq (.aS 8 [.ah (.vr 51) 70]) (.vr 69),.cmp .eq (.ah (.vr 51) 71) (.list [])])]
noncomputable def Lv:DF:=⟨[60],[],EI,none⟩
noncomputable def Nn:List Mp.S:=[.aq (.ah (.vr 72) 73) (.vr 73),.aq (.ah (.vr 72) 74) (.aS 9 [.vr 74]),.aq (.ah (.vr 72) 32) (.vr 32),.aq (.ah (.vr 72) 76) (.vr 76),.aq (.ah (.vr 72) 79) .none,.aq (.ah (.vr 72) 77) (.vr 77),.aq (.ah (.vr 72) 78) (.vr 78),.aq (.ah (.vr 72) 80) (.vr 75),.aq (.ah (.vr 72) 0) (.aS 0 [.ah (.vr 72) 74]),.aq (.ah (.vr 72) 81) (.list []),.ba (.vr 11) 0 [.ah (.vr 72) 74] [.cond (.cmp .dA (.vr 11) (.ah (.vr 72) 81)) [.expr (.aH (.ah (.vr 72) 81) 0 [.vr 11])] []] [],.aq (.ah (.vr 72) 82) (.list []),.aq (.ah (.vr 72) 83) .none,.cond (.ah (.vr 72) 74) [.aq (.ah (.vr 72) 84) (.rY [.ah (.vr 72) 73,.str [32,45,62,32],.aH (.str [32]) 4 [.ah (.vr 72) 74]])] [.aq (.ah (.vr 72) 84) (.dX .vV (.str [37,115,32,45,62,32,60,101,109,112,116,121,62]) (.ah (.vr 72) 73))]]
noncomputable def Np:DF:=⟨[72,32,73,74,75,76,77,78],[.av [.str [114,105,103,104,116],.int 0],.none,.str [],.int 0],Nn,none⟩
noncomputable def Nq:List Mp.S:=[.ret (.ah (.vr 72) 84)]
noncomputable def Nr:DF:=⟨[72],[],Nq,none⟩
noncomputable def Nt:List Mp.S:=[.stop]
noncomputable def Nu:DF:=⟨[72],[],Nt,none⟩
noncomputable def Nv:List Mp.S:=[.ret (.aS 0 [.ah (.vr 72) 74])]
noncomputable def Nw:DF:=⟨[72],[],Nv,none⟩
noncomputable def Nx:List Mp.S:=[.ret (.az (.ah (.vr 72) 74) (.vr 8))]
noncomputable def Ny:DF:=⟨[72,8],[],Nx,none⟩
noncomputable def Nz:List Mp.S:=[.expr (.call 0 [.int 0])]
noncomputable def NA:DF:=⟨[72,85],[],Nz,none⟩
noncomputable def NB:List Mp.S:=[.aq (.ah (.vr 72) 73) (.ah (.vr 31) 73),.aq (.ah (.vr 72) 74) (.aS 10 [.ah (.vr 31) 74]),.aq (.ah (.vr 72) 32) (.ah (.vr 31) 32),.aq (.ah (.vr 72) 33) (.vr 61),.aq (.ah (.vr 72) 86) (.dict [] []),.expr (.aH (.ah (.vr 72) 74) 3 [.vr 61,.str [46]]),.aq (.ah (.vr 72) 74) (.aS 9 [.ah (.vr 72) 74]),.aq (.ah (.vr 72) 0) (.aS 0 [.ah (.vr 72) 74]),.aq (.ah (.vr 72) 81) (.ah (.vr 31) 81)]
noncomputable def NC:DF:=⟨[72,31,61],[],NB,none⟩
noncomputable def ND:List Mp.S:=[.cond (.ah (.vr 72) 74) [.aq (.vr 11) (.rY [.ah (.vr 72) 73,.str [32,45,62,32],.aH (.str [32]) 4 [.ah (.vr 72) 74]])] [.aq (.vr 11) (.dX .vV (.str [37,115,32,45,62,32,60,101,109,112,116,121,62]) (.ah (.vr 72) 73))],.ret (.vr 11)]
noncomputable def NF:DF:=⟨[72],[],ND,none⟩
noncomputable def NG:List Mp.S:=[.stop]
noncomputable def NH:DF:=⟨[72],[],NG,none⟩
noncomputable def NI:List Mp.S:=[.aq (.ah (.vr 72) 87) (.list [.none]),.aq (.ah (.vr 72) 88) (.dict [] []),.aq (.ah (.vr 72) 89) (.dict [] []),.aq (.ah (.vr 72) 90) (.dict [] []),.ba (.vr 36) 0 [.vr 15] [.aq (.az (.ah (.vr 72) 90) (.vr 36)) (.list [])] [],.aq (.az (.ah (.vr 72) 90) (.str [101,114,114,111,114])) (.list []),.aq (.ah (.vr 72) 91) (.dict [] []),.aq (.ah (.vr 72) 92) (.dict [] []),.aq (.ah (.vr 72) 93) (.dict [] []),.aq (.ah (.vr 72) 94) (.dict [] []),.aq (.ah (.vr 72) 95) (.aS 11 []),.aq (.ah (.vr 72) 96) .none]
noncomputable def NJ:DF:=⟨[72,15],[],NI,none⟩
noncomputable def NK:List Mp.S:=[.ret (.aS 0 [.ah (.vr 72) 87])]
noncomputable def NL:DF:=⟨[72],[],NK,none⟩
noncomputable def NM:List Mp.S:=[.ret (.az (.ah (.vr 72) 87) (.vr 8))]
noncomputable def NN:DF:=⟨[72,8],[],NM,none⟩
noncomputable def NO:List Mp.S:=[.kU (.cmp .eq (.ah (.vr 72) 87) (.list [.none])),.cond (.cmp .mF (.vr 36) (.ah (.vr 72) 94)) [.stop] [],.cond (.cmp .dA (.vr 97) (.list [.str [108,101,102,116],.str [114,105,103,104,116],.str [110,111,110,97,115,115,111,99]])) [.stop] [],.aq (.az (.ah (.vr 72) 94) (.vr 36)) (.av [.vr 97,.vr 98])]
noncomputable def NP:DF:=⟨[72,36,97,98],[],NO,none⟩
noncomputable def NQ:List Mp.S:=[.cond (.cmp .mF (.vr 99) (.ah (.vr 72) 90)) [.stop] [],.cond (.cmp .eq (.vr 99) (.str [101,114,114,111,114])) [.stop] [],.cond (.not (.call 1 [.vr 99])) [.stop] [],.ba (.av [.vr 61,.vr 11]) 2 [.vr 100] [.cond (.cmp .mF (.az (.vr 11) (.int 0)) (.str [39,34])) [.stop] [],.cond (.and [.not (.call 1 [.vr 11]),.cmp .ne (.vr 11) (.str [37,112,114,101,99])]) [.stop] []] [],.cond (.cmp .mF (.str [37,112,114,101,99]) (.vr 100)) [.cond (.cmp .eq (.az (.vr 100) (.neg (.int 1))) (.str [37,112,114,101,99])) [.stop] [],.cond (.cmp .ne (.az (.vr 100) (.neg (.int 2))) (.str [37,112,114,101,99])) [.stop] [],.aq (.vr 101) (.az (.vr 100) (.neg (.int 1))),.aq (.vr 102) (.aH (.ah (.vr 72) 94) 2 [.vr 101]),.cond (.not (.vr 102)) [.stop] [.expr (.aH (.ah (.vr 72) 95) 6 [.vr 101])],.H8 (.vr 100) (.neg (.int 2))] [.aq (.vr 101) (.call 3 [.vr 100,.ah (.vr 72) 90]),.aq (.vr 102) (.aH (.ah (.vr 72) 94) 2 [.vr 101,.av [.str [114,105,103,104,116],.int 0]])],.aq (.vr 103) (.rY [.vr 99,.str [32,45,62,32],.vr 100]),.cond (.cmp .mF (.vr 103) (.ah (.vr 72) 89)) [.aq (.vr 104) (.az (.ah (.vr 72) 89) (.vr 103)),.stop] [],.aq (.vr 105) (.aS 0 [.ah (.vr 72) 87]),.cond (.cmp .dA (.vr 99) (.ah (.vr 72) 91)) [.aq (.az (.ah (.vr 72) 91) (.vr 99)) (.list [])] [],.ba (.vr 106) 0 [.vr 100] [.cond (.cmp .mF (.vr 106) (.ah (.vr 72) 90)) [.expr (.aH (.az (.ah (.vr 72) 90) (.vr 106)) 0 [.vr 105])] [.cond (.cmp .dA (.vr 106) (.ah (.vr 72) 91)) [.aq (.az (.ah (.vr 72) 91) (.vr 106)) (.list [])] [],.expr (.aH (.az (.ah (.vr 72) 91) (.vr 106)) 0 [.vr 105])]] [],.aq (.vr 31) (.new 0 [.vr 105,.vr 99,.vr 100,.vr 102,.vr 76,.vr 77,.vr 78]),.expr (.aH (.ah (.vr 72) 87) 0 [.vr 31]),.aq (.az (.ah (.vr 72) 89) (.vr 103)) (.vr 31),.pX [.expr (.aH (.az (.ah (.vr 72) 88) (.vr 99)) 0 [.vr 31])] [1] [.aq (.az (.ah (.vr 72) 88) (.vr 99)) (.list [.vr 31])]]
noncomputable def NR:DF:=⟨[72,99,100,76,77,78],[.none,.str [],.int 0],NQ,none⟩
noncomputable def NS:List Mp.S:=[.cond (.not (.vr 107)) [.aq (.vr 107) (.ah (.az (.ah (.vr 72) 87) (.int 1)) 73)] [],.cond (.cmp .dA (.vr 107) (.ah (.vr 72) 91)) [.stop] [],.aq (.az (.ah (.vr 72) 87) (.int 0)) (.new 0 [.int 0,.str [83,39],.list [.vr 107]]),.expr (.aH (.az (.ah (.vr 72) 91) (.vr 107)) 0 [.int 0]),.aq (.ah (.vr 72) 96) (.vr 107)]
noncomputable def NT:DF:=⟨[72,107],[.none],NS,none⟩
noncomputable def NU:List Mp.S:=[.expr (.call 0 [.int 1])]
noncomputable def NV:DF:=⟨[72],[],NU,none⟩
noncomputable def NW:List Mp.S:=[.expr (.call 0 [.int 2])]
noncomputable def NX:DF:=⟨[72],[],NW,none⟩
noncomputable def NY:List Mp.S:=[.expr (.call 0 [.int 3])]
noncomputable def NZ:DF:=⟨[72],[],NY,none⟩
noncomputable def N0:List Mp.S:=[.expr (.call 0 [.int 4])]
noncomputable def N1:DF:=⟨[72],[],N0,none⟩
noncomputable def N2:List Mp.S:=[.expr (.call 0 [.int 5])]
noncomputable def N3:DF:=⟨[72],[],N2,none⟩
noncomputable def N4:List Mp.S:=[.expr (.call 0 [.int 6])]
noncomputable def N5:DF:=⟨[72],[],N4,none⟩
noncomputable def N6:List Mp.S:=[.aq (.vr 109) (.list []),.ba (.vr 21) 0 [.vr 108] [.aq (.vr 110) (.bool false),.ba (.vr 111) 0 [.az (.ah (.vr 72) 92) (.vr 21)] [.cond (.cmp .eq (.vr 111) (.str [60,101,109,112,116,121,62])) [.aq (.vr 110) (.bool true)] [.cond (.cmp .dA (.vr 111) (.vr 109)) [.expr (.aH (.vr 109) 0 [.vr 111])] []]] [],.cond (.vr 110) [.ue] [.brk]] [.expr (.aH (.vr 109) 0 [.str [60,101,109,112,116,121,62]])],.ret (.vr 109)]
noncomputable def N7:DF:=⟨[72,108],[],N6,none⟩
noncomputable def N8:List Mp.S:=[.cond (.ah (.vr 72) 92) [.ret (.ah (.vr 72) 92)] [],.ba (.vr 106) 0 [.ah (.vr 72) 90] [.aq (.az (.ah (.vr 72) 92) (.vr 106)) (.list [.vr 106])] [],.aq (.az (.ah (.vr 72) 92) (.str [36,101,110,100])) (.list [.str [36,101,110,100]]),.ba (.vr 61) 0 [.ah (.vr 72) 91] [.aq (.az (.ah (.vr 72) 92) (.vr 61)) (.list [])] [],.bP (.bool true) [.aq (.vr 112) (.bool false),.ba (.vr 61) 0 [.ah (.vr 72) 91] [.ba (.vr 31) 0 [.az (.ah (.vr 72) 88) (.vr 61)] [.ba (.vr 111) 0 [.aH (.vr 72) 1003 [.ah (.vr 31) 74]] [.cond (.cmp .dA (.vr 111) (.az (.ah (.vr 72) 92) (.vr 61))) [.expr (.aH (.az (.ah (.vr 72) 92) (.vr 61)) 0 [.vr 111]),.aq (.vr 112) (.bool true)] []] []] []] [],.cond (.not (.vr 112)) [.brk] []] [],.ret (.ah (.vr 72) 92)]
noncomputable def N9:DF:=⟨[72],[],N8,none⟩
noncomputable def Oa:List Mp.S:=[.cond (.ah (.vr 72) 93) [.ret (.ah (.vr 72) 93)] [],.cond (.not (.ah (.vr 72) 92)) [.expr (.aH (.vr 72) 1004 [])] [],.ba (.vr 10) 0 [.ah (.vr 72) 91] [.aq (.az (.ah (.vr 72) 93) (.vr 10)) (.list [])] [],.cond (.not (.vr 107)) [.aq (.vr 107) (.ah (.az (.ah (.vr 72) 87) (.int 1)) 73)] [],.aq (.az (.ah (.vr 72) 93) (.vr 107)) (.list [.str [36,101,110,100]]),.bP (.bool true) [.aq (.vr 113) (.bool false),.ba (.vr 31) 0 [.bN (.ah (.vr 72) 87) (.int 1) .none .none] [.ba (.av [.vr 16,.vr 114]) 2 [.ah (.vr 31) 74] [.cond (.cmp .mF (.vr 114) (.ah (.vr 72) 91)) [.aq (.vr 115) (.aH (.vr 72) 1003 [.bN (.ah (.vr 31) 74) (.dX .add (.vr 16) (.int 1)) .none .none]),.aq (.vr 116) (.bool false),.ba (.vr 111) 0 [.vr 115] [.cond (.and [.cmp .ne (.vr 111) (.str [60,101,109,112,116,121,62]),.cmp .dA (.vr 111) (.az (.ah (.vr 72) 93) (.vr 114))]) [.expr (.aH (.az (.ah (.vr 72) 93) (.vr 114)) 0 [.vr 111]),.aq (.vr 113) (.bool true)] [],.cond (.cmp .eq (.vr 111) (.str [60,101,109,112,116,121,62])) [.aq (.vr 116) (.bool true)] []] [],.cond (.or [.vr 116,.cmp .eq (.vr 16) (.dX .az (.aS 0 [.ah (.vr 31) 74]) (.int 1))]) [.ba (.vr 111) 0 [.az (.ah (.vr 72) 93) (.ah (.vr 31) 73)] [.cond (.cmp .dA (.vr 111) (.az (.ah (.vr 72) 93) (.vr 114))) [.expr (.aH (.az (.ah (.vr 72) 93) (.vr 114)) 0 [.vr 111]),.aq (.vr 113) (.bool true)] []] []] []] []] []] [],.cond (.not (.vr 113)) [.brk] []] [],.ret (.ah (.vr 72) 93)]
noncomputable def Ob:DF:=⟨[72,107],[.none],Oa,none⟩
noncomputable def Oc:List Mp.S:=[.ba (.vr 31) 0 [.ah (.vr 72) 87] [.aq (.vr 117) (.vr 31),.aq (.vr 16) (.int 0),.aq (.vr 82) (.list []),.bP (.bool true) [.cond (.cmp .gt (.vr 16) (.aS 0 [.vr 31])) [.aq (.vr 118) .none] [.aq (.vr 118) (.new 1 [.vr 31,.vr 16]),.pX [.aq (.ah (.vr 118) 119) (.az (.ah (.vr 72) 88) (.az (.ah (.vr 118) 74) (.dX .add (.vr 16) (.int 1))))] [2,1] [.aq (.ah (.vr 118) 119) (.list [])],.pX [.aq (.ah (.vr 118) 120) (.az (.ah (.vr 118) 74) (.dX .az (.vr 16) (.int 1)))] [2] [.aq (.ah (.vr 118) 120) .none]],.aq (.ah (.vr 117) 83) (.vr 118),.cond (.not (.vr 118)) [.brk] [],.expr (.aH (.vr 82) 0 [.vr 118]),.aq (.vr 117) (.vr 118),.j7 16 .add (.int 1)] [],.aq (.ah (.vr 31) 82) (.vr 82)] []]
noncomputable def Od:DF:=⟨[72],[],Oc,none⟩
noncomputable def Oe:List Mp.S:=[.cond (.cmp .dA (.vr 62) (.list [.str [83,76,82],.str [76,65,76,82]])) [.stop] [],.aq (.ah (.vr 72) 66) (.vr 66),.aq (.ah (.vr 72) 122) (.vr 62),.aq (.ah (.vr 72) 56) (.dict [] []),.aq (.ah (.vr 72) 59) (.dict [] []),.aq (.ah (.vr 72) 123) (.ah (.vr 66) 87),.aq (.ah (.vr 72) 124) (.dict [] []),.aq (.ah (.vr 72) 125) (.dict [] []),.aq (.ah (.vr 72) 126) (.int 0),.aq (.ah (.vr 72) 127) (.int 0),.aq (.ah (.vr 72) 128) (.int 0),.aq (.ah (.vr 72) 129) (.list []),.aq (.ah (.vr 72) 70) (.list []),.aq (.ah (.vr 72) 71) (.list []),.expr (.aH (.ah (.vr 72) 66) 1005 []),.expr (.aH (.ah (.vr 72) 66) 1004 []),.expr (.aH (.ah (.vr 72) 66) 1006 []),.expr (.aH (.vr 72) 1007 [])]
noncomputable def Of:DF:=⟨[72,66,62,121],[.str [76,65,76,82],.none],Oe,none⟩
noncomputable def Og:List Mp.S:=[.kT (.vr 72) 126 .add (.int 1),.aq (.vr 130) (.bN (.vr 30) .none .none .none),.aq (.vr 113) (.bool true),.bP (.vr 113) [.aq (.vr 113) (.bool false),.ba (.vr 131) 0 [.vr 130] [.ba (.vr 21) 0 [.ah (.vr 131) 119] [.cond (.cmp .eq (.ah (.vr 21) 132) (.ah (.vr 72) 126)) [.cont] [],.expr (.aH (.vr 130) 0 [.ah (.vr 21) 83]),.aq (.ah (.vr 21) 132) (.ah (.vr 72) 126),.aq (.vr 113) (.bool true)] []] []] [],.ret (.vr 130)]
noncomputable def Oh:DF:=⟨[72,30],[],Og,none⟩
noncomputable def Oi:List Mp.S:=[.aq (.vr 133) (.aH (.ah (.vr 72) 124) 2 [.av [.call 6 [.vr 30],.vr 21]]),.cond (.vr 133) [.ret (.vr 133)] [],.aq (.vr 11) (.aH (.ah (.vr 72) 124) 2 [.vr 21]),.cond (.not (.vr 11)) [.aq (.vr 11) (.dict [] []),.aq (.az (.ah (.vr 72) 124) (.vr 21)) (.vr 11)] [],.aq (.vr 134) (.list []),.ba (.vr 31) 0 [.vr 30] [.aq (.vr 61) (.ah (.vr 31) 83),.cond (.and [.vr 61,.cmp .eq (.ah (.vr 61) 120) (.vr 21)]) [.aq (.vr 135) (.aH (.vr 11) 2 [.av [.ah (.vr 61) 32,.ah (.vr 61) 33]]),.cond (.not (.vr 135)) [.aq (.vr 135) (.dict [] []),.aq (.az (.vr 11) (.av [.ah (.vr 61) 32,.ah (.vr 61) 33])) (.vr 135)] [],.expr (.aH (.vr 134) 0 [.vr 61]),.aq (.vr 11) (.vr 135)] []] [],.aq (.vr 133) (.aH (.vr 11) 2 [.str [36,101,110,100]]),.cond (.not (.vr 133)) [.cond (.vr 134) [.aq (.vr 133) (.aH (.vr 72) 1008 [.vr 134]),.aq (.az (.vr 11) (.str [36,101,110,100])) (.vr 133)] [.aq (.az (.vr 11) (.str [36,101,110,100])) (.vr 134)]] [],.aq (.az (.ah (.vr 72) 124) (.av [.call 6 [.vr 30],.vr 21])) (.vr 133),.ret (.vr 133)]
noncomputable def Oj:DF:=⟨[72,30,21],[],Oi,none⟩
noncomputable def Ol:List Mp.S:=[.aq (.vr 136) (.list [.aH (.vr 72) 1008 [.list [.ah (.az (.ah (.ah (.vr 72) 66) 87) (.int 0)) 83]]]),.aq (.vr 16) (.int 0),.ba (.vr 30) 0 [.vr 136] [.aq (.az (.ah (.vr 72) 125) (.call 6 [.vr 30])) (.vr 16),.j7 16 .add (.int 1)] [],.aq (.vr 16) (.int 0),.bP (.cmp .lt (.vr 16) (.aS 0 [.vr 136])) [.aq (.vr 30) (.az (.vr 136) (.vr 16)),.j7 16 .add (.int 1),.aq (.vr 137) (.dict [] []),.ba (.vr 138) 0 [.vr 30] [.ba (.vr 11) 0 [.ah (.vr 138) 81] [.aq (.az (.vr 137) (.vr 11)) .none] []] [],.ba (.vr 21) 0 [.vr 137] [.aq (.vr 133) (.aH (.vr 72) 1009 [.vr 30,.vr 21]),.cond (.or [.not (.vr 133),.cmp .mF (.call 6 [.vr 133]) (.ah (.vr 72) 125)]) [.cont] [],.aq (.az (.ah (.vr 72) 125) (.call 6 [.vr 133])) (.aS 0 [.vr 136]),.expr (.aH (.vr 136) 0 [.vr 133])] []] [],.ret (.vr 136)]
noncomputable def Om:DF:=⟨[72],[],Ol,none⟩
noncomputable def Oo:List Mp.S:=[.aq (.vr 139) (.aS 11 []),.aq (.vr 140) (.int 0),.bP (.bool true) [.ba (.vr 31) 0 [.bN (.ah (.ah (.vr 72) 66) 87) (.int 1) .none .none] [.cond (.cmp .eq (.ah (.vr 31) 0) (.int 0)) [.expr (.aH (.vr 139) 6 [.ah (.vr 31) 73]),.cont] [],.ba (.vr 106) 0 [.ah (.vr 31) 74] [.cond (.cmp .dA (.vr 106) (.vr 139)) [.brk] []] [.expr (.aH (.vr 139) 6 [.ah (.vr 31) 73])]] [],.cond (.cmp .eq (.aS 0 [.vr 139]) (.vr 140)) [.brk] [],.aq (.vr 140) (.aS 0 [.vr 139])] [],.ret (.vr 139)]
noncomputable def Oq:DF:=⟨[72],[],Oo,none⟩
noncomputable def Ot:List Mp.S:=[.aq (.vr 141) (.list []),.ba (.av [.vr 142,.vr 143]) 2 [.vr 136] [.ba (.vr 31) 0 [.vr 143] [.cond (.cmp .lt (.ah (.vr 31) 33) (.dX .az (.ah (.vr 31) 0) (.int 1))) [.aq (.vr 106) (.av [.vr 142,.az (.ah (.vr 31) 74) (.dX .add (.ah (.vr 31) 33) (.int 1))]),.cond (.cmp .mF (.az (.vr 106) (.int 1)) (.ah (.ah (.vr 72) 66) 91)) [.cond (.cmp .dA (.vr 106) (.vr 141)) [.expr (.aH (.vr 141) 0 [.vr 106])] []] []] []] []] [],.ret (.vr 141)]
noncomputable def Ou:DF:=⟨[72,136],[],Ot,none⟩
noncomputable def Ov:List Mp.S:=[.aq (.av [.vr 143,.vr 20]) (.vr 141),.aq (.vr 144) (.list []),.aq (.vr 133) (.aH (.vr 72) 1009 [.az (.vr 136) (.vr 143),.vr 20]),.ba (.vr 31) 0 [.vr 133] [.cond (.cmp .lt (.ah (.vr 31) 33) (.dX .az (.ah (.vr 31) 0) (.int 1))) [.aq (.vr 27) (.az (.ah (.vr 31) 74) (.dX .add (.ah (.vr 31) 33) (.int 1))),.cond (.cmp .mF (.vr 27) (.ah (.ah (.vr 72) 66) 90)) [.cond (.cmp .dA (.vr 27) (.vr 144)) [.expr (.aH (.vr 144) 0 [.vr 27])] []] []] []] [],.cond (.and [.cmp .eq (.vr 143) (.int 0),.cmp .eq (.vr 20) (.az (.ah (.az (.ah (.ah (.vr 72) 66) 87) (.int 0)) 74) (.int 0))]) [.expr (.aH (.vr 144) 0 [.str [36,101,110,100]])] [],.ret (.vr 144)]
noncomputable def Ow:DF:=⟨[72,136,141,139],[],Ov,none⟩
noncomputable def Ox:List Mp.S:=[.aq (.vr 25) (.list []),.aq (.av [.vr 143,.vr 20]) (.vr 141),.aq (.vr 133) (.aH (.vr 72) 1009 [.az (.vr 136) (.vr 143),.vr 20]),.aq (.vr 131) (.aH (.ah (.vr 72) 125) 2 [.call 6 [.vr 133],.neg (.int 1)]),.ba (.vr 31) 0 [.vr 133] [.cond (.cmp .lt (.ah (.vr 31) 33) (.dX .az (.ah (.vr 31) 0) (.int 1))) [.aq (.vr 27) (.az (.ah (.vr 31) 74) (.dX .add (.ah (.vr 31) 33) (.int 1))),.cond (.cmp .mF (.vr 27) (.vr 145)) [.expr (.aH (.vr 25) 0 [.av [.vr 131,.vr 27]])] []] []] [],.ret (.vr 25)]
noncomputable def Oy:DF:=⟨[72,136,141,145],[],Ox,none⟩
noncomputable def Oz:List Mp.S:=[.aq (.vr 146) (.dict [] []),.aq (.vr 147) (.dict [] []),.aq (.vr 148) (.dict [] []),.ba (.vr 106) 0 [.vr 141] [.aq (.az (.vr 148) (.vr 106)) (.int 1)] [],.ba (.av [.vr 143,.vr 20]) 0 [.vr 141] [.aq (.vr 149) (.list []),.aq (.vr 150) (.list []),.ba (.vr 31) 0 [.az (.vr 136) (.vr 143)] [.cond (.cmp .ne (.ah (.vr 31) 73) (.vr 20)) [.cont] [],.aq (.vr 33) (.ah (.vr 31) 33),.aq (.vr 131) (.vr 143),.bP (.cmp .lt (.vr 33) (.dX .az (.ah (.vr 31) 0) (.int 1))) [.aq (.vr 33) (.dX .add (.vr 33) (.int 1)),.aq (.vr 106) (.az (.ah (.vr 31) 74) (.vr 33)),.cond (.cmp .mF (.av [.vr 131,.vr 106]) (.vr 148)) [.aq (.vr 151) (.dX .add (.vr 33) (.int 1)),.bP (.cmp .lt (.vr 151) (.ah (.vr 31) 0)) [.cond (.cmp .mF (.az (.ah (.vr 31) 74) (.vr 151)) (.ah (.ah (.vr 72) 66) 90)) [.brk] [],.cond (.cmp .dA (.az (.ah (.vr 31) 74) (.vr 151)) (.vr 139)) [.brk] [],.aq (.vr 151) (.dX .add (.vr 151) (.int 1))] [.expr (.aH (.vr 150) 0 [.av [.vr 131,.vr 106]])]] [],.aq (.vr 133) (.aH (.vr 72) 1009 [.az (.vr 136) (.vr 131),.vr 106]),.aq (.vr 131) (.aH (.ah (.vr 72) 125) 2 [.call 6 [.vr 133],.neg (.int 1)])] [],.ba (.vr 152) 0 [.az (.vr 136) (.vr 131)] [.cond (.cmp .ne (.ah (.vr 152) 73) (.ah (.vr 31) 73)) [.cont] [],.cond (.cmp .ne (.ah (.vr 152) 0) (.ah (.vr 31) 0)) [.cont] [],.aq (.vr 16) (.int 0),.bP (.cmp .lt (.vr 16) (.ah (.vr 152) 33)) [.cond (.cmp .ne (.az (.ah (.vr 152) 74) (.vr 16)) (.az (.ah (.vr 31) 74) (.dX .add (.vr 16) (.int 1)))) [.brk] [],.aq (.vr 16) (.dX .add (.vr 16) (.int 1))] [.expr (.aH (.vr 149) 0 [.av [.vr 131,.vr 152]])]] []] [],.ba (.vr 16) 0 [.vr 150] [.cond (.cmp .dA (.vr 16) (.vr 147)) [.aq (.az (.vr 147) (.vr 16)) (.list [])] [],.expr (.aH (.az (.vr 147) (.vr 16)) 0 [.av [.vr 143,.vr 20]])] [],.aq (.az (.vr 146) (.av [.vr 143,.vr 20])) (.vr 149)] [],.ret (.av [.vr 146,.vr 147])]
noncomputable def OA:DF:=⟨[72,136,141,139],[],Oz,none⟩
noncomputable def OB:List Mp.S:=[.aq (.vr 19) (.kS 0 [136,139,72]),.aq (.vr 18) (.kS 1 [136,139,72]),.aq (.vr 23) (.call 4 [.vr 153,.vr 18,.vr 19]),.ret (.vr 23)]
noncomputable def OC:DF:=⟨[72,136,153,139],[],OB,some (sj "<lam 50>")⟩
noncomputable def OD:List Mp.S:=[.aq (.vr 19) (.kS 2 [154]),.aq (.vr 18) (.kS 3 [155]),.aq (.vr 23) (.call 4 [.vr 153,.vr 18,.vr 19]),.ret (.vr 23)]
noncomputable def OE:DF:=⟨[72,153,154,155],[],OD,some (sj "<lam 51>")⟩
noncomputable def OF:List Mp.S:=[.ba (.av [.vr 141,.vr 158]) 3 [.vr 156] [.ba (.av [.vr 143,.vr 31]) 0 [.vr 158] [.cond (.cmp .dA (.vr 143) (.ah (.vr 31) 86)) [.aq (.az (.ah (.vr 31) 86) (.vr 143)) (.list [])] [],.aq (.vr 111) (.aH (.vr 157) 2 [.vr 141,.list []]),.ba (.vr 27) 0 [.vr 111] [.cond (.cmp .dA (.vr 27) (.az (.ah (.vr 31) 86) (.vr 143))) [.expr (.aH (.az (.ah (.vr 31) 86) (.vr 143)) 0 [.vr 27])] []] []] []] []]
noncomputable def OG:DF:=⟨[72,156,157],[],OF,none⟩
noncomputable def OH:List Mp.S:=[.aq (.vr 139) (.aH (.vr 72) 1012 []),.aq (.vr 141) (.aH (.vr 72) 1013 [.vr 136]),.aq (.vr 154) (.aH (.vr 72) 1014 [.vr 136,.vr 141,.vr 139]),.aq (.av [.vr 159,.vr 160]) (.aH (.vr 72) 1015 [.vr 136,.vr 141,.vr 139]),.aq (.vr 161) (.aH (.vr 72) 1016 [.vr 141,.vr 154,.vr 160]),.expr (.aH (.vr 72) 1017 [.vr 159,.vr 161])]
noncomputable def OI:DF:=⟨[72,136],[],OH,none⟩
noncomputable def OJ:List Mp.S:=[.aq (.vr 87) (.ah (.ah (.vr 72) 66) 87),.aq (.vr 94) (.ah (.ah (.vr 72) 66) 94),.aq (.vr 162) (.ah (.vr 72) 59),.aq (.vr 163) (.ah (.vr 72) 56),.aq (.vr 164) (.dict [] []),.aq (.vr 136) (.aH (.vr 72) 1018 []),.cond (.cmp .eq (.ah (.vr 72) 122) (.str [76,65,76,82])) [.expr (.aH (.vr 72) 1019 [.vr 136])] [],.aq (.vr 165) (.int 0),.ba (.vr 30) 0 [.vr 136] [.aq (.vr 166) (.dict [] []),.aq (.vr 167) (.dict [] []),.aq (.vr 168) (.dict [] []),.ba (.vr 31) 0 [.vr 30] [.cond (.cmp .eq (.ah (.vr 31) 0) (.dX .add (.ah (.vr 31) 33) (.int 1))) [.cond (.cmp .eq (.ah (.vr 31) 73) (.str [83,39])) [.aq (.az (.vr 166) (.str [36,101,110,100])) (.int 0),.aq (.az (.vr 167) (.str [36,101,110,100])) (.vr 31)] [.cond (.cmp .eq (.ah (.vr 72) 122) (.str [76,65,76,82])) [.aq (.vr 169) (.az (.ah (.vr 31) 86) (.vr 165))] [.aq (.vr 169) (.az (.ah (.ah (.vr 72) 66) 93) (.ah (.vr 31) 73))],.ba (.vr 27) 0 [.vr 169] [.aq (.vr 152) (.aH (.vr 166) 2 [.vr 27]),.cond (.cmp .t9 (.vr 152) .none) [.cond (.cmp .gt (.vr 152) (.int 0)) [.aq (.av [.vr 170,.vr 171]) (.aH (.vr 94) 2 [.vr 27,.av [.str [114,105,103,104,116],.int 0]]),.aq (.av [.vr 172,.vr 173]) (.ah (.az (.vr 87) (.ah (.vr 31) 32)) 80),.cond (.or [.cmp .lt (.vr 171) (.vr 173),.and [.cmp .eq (.vr 171) (.vr 173),.cmp .eq (.vr 172) (.str [108,101,102,116])]]) [.aq (.az (.vr 166) (.vr 27)) (.neg (.ah (.vr 31) 32)),.aq (.az (.vr 167) (.vr 27)) (.vr 31),.cond (.and [.not (.vr 171),.not (.vr 173)]) [.expr (.aH (.ah (.vr 72) 70) 0 [.av [.vr 165,.vr 27,.str [114,101,100,117,99,101]]])] [],.kT (.az (.vr 87) (.ah (.vr 31) 32)) 174 .add (.int 1)] [.cond (.and [.cmp .eq (.vr 171) (.vr 173),.cmp .eq (.vr 172) (.str [110,111,110,97,115,115,111,99])]) [.aq (.az (.vr 166) (.vr 27)) .none] [.cond (.not (.vr 173)) [.expr (.aH (.ah (.vr 72) 70) 0 [.av [.vr 165,.vr 27,.str [115,104,105,102,116]]])] []]]] [.cond (.cmp .lt (.vr 152) (.int 0)) [.aq (.vr 175) (.az (.vr 87) (.neg (.vr 152))),.aq (.vr 176) (.az (.vr 87) (.ah (.vr 31) 32)),.cond (.cmp .gt (.ah (.vr 175) 78) (.ah (.vr 176) 78)) [.aq (.az (.vr 166) (.vr 27)) (.neg (.ah (.vr 31) 32)),.aq (.az (.vr 167) (.vr 27)) (.vr 31),.stop,.kT (.az (.vr 87) (.ah (.vr 31) 32)) 174 .add (.int 1),.kT (.az (.vr 87) (.ah (.vr 175) 32)) 174 .az (.int 1)] [.stop],.expr (.aH (.ah (.vr 72) 71) 0 [.av [.vr 165,.vr 177,.vr 178]])] [.stop]]] [.aq (.az (.vr 166) (.vr 27)) (.neg (.ah (.vr 31) 32)),.aq (.az (.vr 167) (.vr 27)) (.vr 31),.kT (.az (.vr 87) (.ah (.vr 31) 32)) 174 .add (.int 1)]] []]] [.aq (.vr 16) (.ah (.vr 31) 33),.aq (.vr 27) (.az (.ah (.vr 31) 74) (.dX .add (.vr 16) (.int 1))),.cond (.cmp .mF (.vr 27) (.ah (.ah (.vr 72) 66) 90)) [.aq (.vr 133) (.aH (.vr 72) 1009 [.vr 30,.vr 27]),.aq (.vr 131) (.aH (.ah (.vr 72) 125) 2 [.call 6 [.vr 133],.neg (.int 1)]),.cond (.cmp .ge (.vr 131) (.int 0)) [.aq (.vr 152) (.aH (.vr 166) 2 [.vr 27]),.cond (.cmp .t9 (.vr 152) .none) [.cond (.cmp .gt (.vr 152) (.int 0)) [.cond (.cmp .ne (.vr 152) (.vr 131)) [.stop] []] [.cond (.cmp .lt (.vr 152) (.int 0)) [.aq (.av [.vr 170,.vr 171]) (.aH (.vr 94) 2 [.vr 27,.av [.str [114,105,103,104,116],.int 0]]),.aq (.av [.vr 172,.vr 173]) (.ah (.az (.vr 87) (.ah (.az (.vr 167) (.vr 27)) 32)) 80),.j8] [.stop]]] [.aq (.az (.vr 166) (.vr 27)) (.vr 131),.aq (.az (.vr 167) (.vr 27)) (.vr 31)]] []] []]] [],.aq (.vr 179) (.dict [] []),.ba (.vr 138) 0 [.vr 30] [.ba (.vr 11) 0 [.ah (.vr 138) 81] [.cond (.cmp .mF (.vr 11) (.ah (.ah (.vr 72) 66) 91)) [.aq (.az (.vr 179) (.vr 11)) .none] []] []] [],.ba (.vr 61) 0 [.vr 179] [.aq (.vr 133) (.aH (.vr 72) 1009 [.vr 30,.vr 61]),.aq (.vr 131) (.aH (.ah (.vr 72) 125) 2 [.call 6 [.vr 133],.neg (.int 1)]),.cond (.cmp .ge (.vr 131) (.int 0)) [.aq (.az (.vr 168) (.vr 61)) (.vr 131)] []] [],.aq (.az (.vr 163) (.vr 165)) (.vr 166),.aq (.az (.vr 164) (.vr 165)) (.vr 167),.aq (.az (.vr 162) (.vr 165)) (.vr 168),.j7 165 .add (.int 1)] []]
noncomputable def OK:DF:=⟨[72],[],OJ,none⟩
noncomputable def dfs:List DF:=[f0,f1,f2,f3,f4,f5,f6,f7,f8,f9,Ni,Nj,Nk,Nl,Nm,Lv,Np,Nr,Nu,Nw,Ny,NA,NC,NF,NH,NJ,NL,NN,NP,NR,NT,NV,NX,NZ,N1,N3,N5,N7,N9,Ob,Od,Of,Oh,Oj,Om,Oq,Ou,Ow,Oy,OA,OC,OE,OG,OI,OK]
noncomputable def lds:List LD:=[⟨[136,139,72],[21],.aH (.vr 72) 1010 [.vr 136,.vr 21,.vr 139]⟩,⟨[136,139,72],[21],.aH (.vr 72) 1011 [.vr 136,.vr 21,.vr 139]⟩,⟨[154],[21],.az (.vr 154) (.vr 21)⟩,⟨[155],[21],.aH (.vr 155) 2 [.vr 21,.list []]⟩]
noncomputable def Fs:List Fn:=Mp.fg P dfs lds
noncomputable def nm:List Str:=[(sj "len"),(sj "append"),(sj "pop"),(sj "get"),(sj "insert"),(sj "join"),(sj "items"),(sj "add"),(sj "index"),(sj "count"),(sj "k"),(sj "s"),(sj "c"),(sj "_IDENTIFIER"),(sj "symbols"),(sj "terminals"),(sj "i"),(sj "X"),(sj "R"),(sj "FP"),(sj "N"),(sj "x"),(sj "stack"),(sj "F"),(sj "d"),(sj "rel"),(sj "y"),(sj "a"),(sj "MAXINT"),(sj "element"),(sj "I"),(sj "p"),(sj "number"),(sj "lr_index"),(sj "tape"),(sj "weights"),(sj "term"),(sj "pick"),(sj "weight"),(sj "height"),(sj "shut"),(sj "word"),(sj "depth"),(sj "letter"),(sj "verdicts"),(sj "cuts"),(sj "trees"),(sj "tree"),(sj "nest"),(sj "place"),(sj "inner"),(sj "table"),(sj "bodies"),(sj "states"),(sj "_"),(sj "act"),(sj "lr_action"),(sj "size"),(sj "parts"),(sj "lr_goto"),(sj "script"),(sj "n"),(sj "method"),(sj "choice"),(sj "marked"),(sj "turn"),(sj "grammar"),(sj "body"),(sj "spot"),(sj "told"),(sj "sr_conflicts"),(sj "rr_conflicts"),(sj "self"),(sj "name"),(sj "prod"),(sj "precedence"),(sj "func"),(sj "file"),(sj "line"),(sj "callable"),(sj "prec"),(sj "usyms"),(sj "lr_items"),(sj "lr_next"),(sj "str"),(sj "pdict"),(sj "lookaheads"),(sj "Productions"),(sj "Prodnames"),(sj "Prodmap"),(sj "Terminals"),(sj "Nonterminals"),(sj "First"),(sj "Follow"),(sj "Precedence"),(sj "UsedPrecedence"),(sj "Start"),(sj "assoc"),(sj "level"),(sj "prodname"),(sj "syms"),(sj "precname"),(sj "prodprec"),(sj "map"),(sj "m"),(sj "pnumber"),(sj "t"),(sj "start"),(sj "beta"),(sj "result"),(sj "x_produces_empty"),(sj "f"),(sj "some_change"),(sj "didadd"),(sj "B"),(sj "fst"),(sj "hasempty"),(sj "lastlri"),(sj "lri"),(sj "lr_after"),(sj "lr_before"),(sj "log"),(sj "lr_method"),(sj "lr_productions"),(sj "lr_goto_cache"),(sj "lr0_cidhash"),(sj "_add_count"),(sj "sr_conflict"),(sj "rr_conflict"),(sj "conflicts"),(sj "J"),(sj "j"),(sj "lr0_added"),(sj "g"),(sj "gs"),(sj "s1"),(sj "C"),(sj "asyms"),(sj "ii"),(sj "nullable"),(sj "num_nullable"),(sj "trans"),(sj "stateno"),(sj "state"),(sj "terms"),(sj "empty"),(sj "lookdict"),(sj "includedict"),(sj "dtrans"),(sj "lookb"),(sj "includes"),(sj "li"),(sj "r"),(sj "ntrans"),(sj "readsets"),(sj "inclsets"),(sj "lookbacks"),(sj "followset"),(sj "lb"),(sj "lookd"),(sj "included"),(sj "followsets"),(sj "goto"),(sj "action"),(sj "actionp"),(sj "st"),(sj "st_action"),(sj "st_actionp"),(sj "st_goto"),(sj "laheads"),(sj "sprec"),(sj "slevel"),(sj "rprec"),(sj "rlevel"),(sj "reduced"),(sj "oldp"),(sj "pp"),(sj "chosenp"),(sj "rejectp"),(sj "nkeys")]
noncomputable def ct:CT:={nm:=nm,rC:=[((sj "_wall"),0),((sj "_is_identifier"),1),((sj "_literal"),2),((sj "rightmost_terminal"),3),((sj "digraph"),4),((sj "traverse"),5),((sj "_place"),6),((sj "_law_WAYS"),7),((sj "_law_next"),8),((sj "_law_weights"),9),((sj "_law_verdict"),10),((sj "_law_word"),11),((sj "_law_nest"),12),((sj "_law_read"),13),((sj "_law_run"),14),((sj "law"),15)],Ak:=[((sj "Production"),0),((sj "LRItem"),1),((sj "Grammar"),2),((sj "LRGeneratedTable"),3)],Ie:=[((sj "len"),0),((sj "min"),3),((sj "max"),4),((sj "all"),6),((sj "tuple"),9),((sj "list"),10),((sj "set"),11)],Ig:=[(sj "sorted")],FC:=[(sj "range")],Ih:=[(sj "enumerate")],vf:=[(sj "KeyError")],vg:=[(sj "IndexError")],iQ:=[((sj "MAXINT"),28),((sj "_IDENTIFIER"),13)],fW:=RA 180,vh:=RA 180,rD:=[(0,(sj "append")),(1,(sj "pop")),(2,(sj "get")),(3,(sj "insert")),(4,(sj "join")),(6,(sj "add")),(1020,(sj "__str__")),(1021,(sj "__repr__")),(1022,(sj "__getitem__")),(1023,(sj "bind")),(1020,(sj "__str__")),(1021,(sj "__repr__")),(1022,(sj "__getitem__")),(1000,(sj "set_precedence")),(1001,(sj "add_production")),(1002,(sj "set_start")),(1024,(sj "find_unreachable")),(1025,(sj "infinite_cycles")),(1026,(sj "undefined_symbols")),(1027,(sj "unused_terminals")),(1028,(sj "unused_rules")),(1029,(sj "unused_precedence")),(1003,(sj "_first")),(1004,(sj "compute_first")),(1006,(sj "compute_follow")),(1005,(sj "build_lritems")),(1008,(sj "lr0_closure")),(1009,(sj "lr0_goto")),(1018,(sj "lr0_items")),(1012,(sj "compute_nullable_nonterminals")),(1013,(sj "find_nonterminal_transitions")),(1010,(sj "dr_relation")),(1011,(sj "reads_relation")),(1015,(sj "compute_lookback_includes")),(1014,(sj "compute_read_sets")),(1016,(sj "compute_follow_sets")),(1017,(sj "add_lookaheads")),(1019,(sj "add_lalr_lookaheads")),(1007,(sj "lr_parse_table"))],mg:=λzz zz zz=>false}
end
end
section
open PySem Mp
noncomputable def fa:List Addr:=[21,39,46,146,294,301,318,438,445,452,459,466,471,478,485,490,62,69,76,83,90,97,118,125,132,172,179,186,193,201,209,216,223,230,237,244,251,258,265,273,280,333,340,347,354,361,368,375,382,389,396,403,410,417,424]
noncomputable def pt:PT:=⟨{ct with mg:=Cn P fa ct},fa,[100,135,283,427],dfs,lds,[⟨sj "<lam 50>",395,391,sj "LRGeneratedTable.compute_read_sets.<locals>."⟩,⟨sj "<lam 51>",402,398,sj "LRGeneratedTable.compute_follow_sets.<locals>."⟩],["self","C","nullable","readsets","inclsets"].map sj⟩
end
section
section
noncomputable def hs: {l:List Fn//Mp.fg P dfs lds=l}:=⟨_,by
 unfold Mp.fg dfs;dsimp only[Qe,List.map_nil,DF.fn,f0,b0,f1,b1,f2,b2,f3,b3,f4,b4,f5,b5,f6,b6,f7,b7,f8,b8,f9,b9,Ni,Mn,Nj,Ka,Nk,Ls,Nl,Ij,Nm,Lu,Lv,EI,Np,Nn,Nr,Nq,Nu,Nt,Nw,Nv,Ny,Nx,NA,Nz,NC,NB,NF,ND,NH,NG,NJ,NI,NL,NK,NN,NM,NP,NO,NR,NQ,NT,NS,NV,NU,NX,NW,NZ,NY,N1,N0,N3,N2,N5,N4,N7,N6,N9,N8,Ob,Oa,Od,Oc,Of,Oe,Oh,Og,Oj,Oi,Om,Ol,Oq,Oo,Ou,Ot,Ow,Ov,Oy,Ox,OA,Oz,OC,OB,OE,OD,OG,OF,OI,OH,OK,OJ,dM,dS,dE,cW,dT,Lj,j9]⟩
noncomputable def eR:List Fn:=hs.1
theorem FH:Mp.fg P dfs lds=eR:=hs.2
noncomputable def mv:Ctx:=⟨1000,run eR 99⟩
noncomputable def CA:List Mp.S:=EI.take 8
noncomputable def FJ:List Mp.S:=(EI.drop 8).take 3
noncomputable def CB:List Mp.S:=(EI.drop 11).take 1
noncomputable def CC:List Mp.S:=(EI.drop 12).take 2
noncomputable def FK:List Mp.S:=(EI.drop 14).take 1
noncomputable def vD:List Mp.S:=EI.drop 15
noncomputable abbrev yW:List Nat:=[108,101,102,116]
noncomputable abbrev pE:List Nat:=[114,105,103,104,116]
noncomputable abbrev tM:List Nat:=[110,111,110,97,115,115,111,99]
noncomputable abbrev WL:=List Nat×Int
noncomputable def tp (p:WL):V:=.av [.str p.1,.int p.2]
noncomputable def AF:WL:=(pE,0)
noncomputable def cJ (k:List Nat):Option WL->List (V×V)
 |none=>[]|some p=>[(.str k,tp p)]
noncomputable def lM (pa pb po:Option WL) (pp:WL):List (V×V):=cJ [97] pa++(cJ [98] pb++(cJ [111] po++[(.str [80],tp pp)]))
noncomputable def AG (w:List Nat):Prop:=w=yW\/w=pE\/w=tM
noncomputable def HB (p:Option WL):Prop:=∀q,p=some q->AG q.1
noncomputable def kH:Nat->List V
 |0=>[.str [69,69],.str [97],.str [98],.str [111,69,99]]|1=>[.str [97],.str [98],.str [111,69,99],.str [69,69]]|2=>[.str [98],.str [111,69,99],.str [69,69],.str [97]]|_=>[.str [111,69,99],.str [69,69],.str [97],.str [98]]
noncomputable def rP (r:R (Flow×Lo)) (ys m:List Nat):Option (Lo×St):=match r with
 |.ok (.next,lo) s=>lL ys m lo s|_=>none
noncomputable def OL (mt:List Nat) (mk:Bool) (t:Nat) (w:List Nat):Lo:=[(62,.str mt),(35,.ar 0),(64,.bool mk),(65,.int t),(41,.str w)]
noncomputable def EJ (mt:List Nat) (mk:Bool) (w:List Nat):Lo:=[(62,.str mt),(35,.ar 0),(64,.bool mk),(41,.str w),(52,.ar 1),(66,.bc 2 2)]
noncomputable def sG (W D:List (V×V)) (B:List V):St:=tI [.dict W,.list B,.ns [(87,.ar 3),(88,.ar 4),(89,.ar 5),(90,.ar 6),(91,.ar 12),(92,.ar 13),(93,.ar 14),(94,.ar 15),(95,.ar 16),(96,.none)],
 .list [.none],.dict [],.dict [],.dict [(.str [97],.ar 7),(.str [98],.ar 8),(.str [111],.ar 9),(.str [99],.ar 10),(.str [101,114,114,111,114],.ar 11)],.list [],.list [],.list [],.list [],.list [],.dict [],.dict [],.dict [],.dict D,.set []]
noncomputable def Kb:List Nat:=[62,35,64,41,52,66]
theorem B1(mt:List Nat)(mk:Bool)(w:List Nat)(pa pb po:Option WL)(pp:WL)(t:Nat)(ht:t<4):
  rP (block (dM P FJ) mv (OL mt mk t w) (tI [.dict (lM pa pb po pp)])) Kb [0,4,6,7,8,9,10,11,12,13,14,15,16,17,18,19,20]=some (EJ mt mk w,sG (lM pa pb po pp) [] (kH t)):=by
 rcases pa with _|⟨wa,la⟩<;>rcases pb with _|⟨wb,lb⟩<;>rcases po with _|⟨wo,lo⟩<;>obtain⟨wp,lp⟩:=pp<;>
 (match t,ht with
 |0,_=>kernel_rfl|1,_=>kernel_rfl|2,_=>kernel_rfl|3,_=>kernel_rfl)
noncomputable def Lw:List (Option (List Nat)):=[none,some yW,some pE,some tM]
noncomputable def HC (w:Option (List Nat)) (l:Int):Option WL:=w.map λw=>(w,l)
noncomputable def Lq:List (Nat×List Nat×Option (List Nat)×Option (List Nat)×Option (List Nat)):=[0,1,2,3].flatMap λt=>[yW,pE,tM].flatMap λp=>Lw.flatMap λa=>Lw.flatMap λb=>Lw.map λo=>(t,p,a,b,o)
theorem Pm(mt:List Nat)(mk:Bool)(w:List Nat)(la lb lo lp:Int):
  (Lq.map λx=>(λW=>rP (block (dM P CB) mv (EJ mt mk w) (sG W [] (kH x.1))) Kb [0,1,2,3,4,5,6,7,8,9,10,11,12,13,14,15,16]) (lM (HC x.2.2.1 la) (HC x.2.2.2.1 lb) (HC x.2.2.2.2 lo) (x.2.1,lp)))=
  Lq.map λx=>(λW=>some (EJ mt mk w,sG W W (kH x.1))) (lM (HC x.2.2.1 la) (HC x.2.2.2.1 lb) (HC x.2.2.2.2 lo) (x.2.1,lp)):=by kernel_rfl
theorem xI{p:Option WL}(h:HB p):∃w l,p=HC w l/\w∈Lw:=by
 rcases p with _|⟨w,l⟩
 .exact bW none (0) rfl (.head _)
 .exact bW (some w) l rfl (by rcases h _ rfl with e|e|e<;>rw[show w=_ from e]<;>decide)
theorem B2(mt:List Nat)(mk:Bool)(w:List Nat)(t:Nat)(ht:t<4)(pa pb po:Option WL)(pp:WL)(ha:HB pa)(hb:HB pb)(ho:HB po)(hp:AG pp.1):
  rP (block (dM P CB) mv (EJ mt mk w) (sG (lM pa pb po pp) [] (kH t))) Kb [0,1,2,3,4,5,6,7,8,9,10,11,12,13,14,15,16]=some (EJ mt mk w,sG (lM pa pb po pp) (lM pa pb po pp) (kH t)):=by
 obtain⟨wa,la,rfl,ia⟩:=xI ha;obtain⟨wb,lb,rfl,ib⟩:=xI hb;obtain⟨wo,lo,rfl,io⟩:=xI ho;refine List.map_inj_left.mp (Pm mt mk w la lb lo pp.2) (t,pp.1,wa,wb,wo) (List.mem_flatMap.mpr ⟨t,?_,List.mem_flatMap.mpr ⟨pp.1,?_,List.mem_flatMap.mpr ⟨wa,ia,List.mem_flatMap.mpr (ag wb ib (Q5 io))⟩⟩⟩)
 .exact RF.mpr ht
 .rcases hp with e|e|e<;>rw[e]<;>decide
noncomputable def mT:Bool->Nat->List Nat
 |true,0=>[25,26,27,28,29,35,36,37,43,44,45,53,54,55,57,58,59]|true,1=>[22,23,24,25,26,32,33,34,42,43,44,53,54,55,57,58,59]|true,2=>[22,23,24,25,26,34,35,36,45,46,47,53,54,55,57,58,59]|true,_=>[24,25,26,27,28,37,38,39,45,46,47,53,54,55,57,58,59]|false,0=>[23,24,25,26,27,33,34,35,41,42,43,51,52,53,55,56,57]|false,1=>[22,23,24,25,26,32,33,34,42,43,44,51,52,53,55,56,57]|false,2=>[22,23,24,25,26,34,35,36,43,44,45,51,52,53,55,56,57]|false,_=>[24,25,26,27,28,35,36,37,43,44,45,51,52,53,55,56,57]
noncomputable def mS (mk:Bool) (t:Nat):List Nat:=[0,1,2,3,4,5,6,7,8,9,10,11,12,13,14,15,16]++mT mk t
noncomputable def sC (t:Nat) (pa pb pe:WL):Mp.St:=match rP (block (dM P CC) mv (EJ [] true []) (sG [] [(.str [97],tp pa),(.str [98],tp pb),(.str [80],tp pe)] (kH t))) Kb (mS true t) with
 |some (_,s)=>s|none=>⟨.nil,0⟩
noncomputable def sS (t:Nat) (W:List (V×V)) (D:O) (pa pb pe:WL) (used:List (List Nat)):Mp.St:=(((sC t pa pb pe).bU 0 (.dict W)).bU 15 D).bU 16 (.set used)
noncomputable def wl (p:Option WL):WL:=match p with|some q=>q|none=>AF
theorem B3(mt:List Nat)(mk:Bool)(w:List Nat)(t:Nat)(ht:t<4)(pa pb po:Option WL)(pp:WL):
  rP (block (dM P CC) mv (EJ mt mk w) (sG (lM pa pb po pp) (lM pa pb po pp) (kH t))) Kb (mS mk t)=some (EJ mt mk w,sS t (lM pa pb po pp) (.dict (lM pa pb po pp)) (wl pa) (wl pb) (bif mk then pp else AF) (bif mk then [[80]] else [])):=by
 obtain⟨wp,lp⟩:=pp;cases mk<;>rcases pa with _|⟨wa,la⟩<;>rcases pb with _|⟨wb,lb⟩<;>rcases po with _|⟨wo,lo⟩<;>
 (match t,ht with
 |0,_=>kernel_rfl|1,_=>kernel_rfl|2,_=>kernel_rfl|3,_=>kernel_rfl)
end
open Mp.s (oI oS oL oO oD oV oN oT)
section
noncomputable def mw:List (List Nat):=[[97],[98],[111],[99],[36,101,110,100]]
noncomputable def yX (row:List (V×V)) (k:List Nat):V:=match aE row (.str k) with|some v=>v|.none=>.none
noncomputable def jK (s:Mp.St) (l:Nat) (ks:List (List Nat)) (st:Nat):Option (Bool×List V):=(oD (s.get l)).bind λqy=>(oL (aE qy (.int st))).bind λr=>(oD (s.get r)).bind λrow=>some (QT r s.n,ks.map (yX row))
noncomputable def OM:R (Flow×Lo)->Option (Lo×Mp.St)
 |.ok (.next,lo) s=>some (lo,s)|_=>none
noncomputable def tN (mt:List Nat) (mk:Bool) (w:List Nat) (t:Nat) (W:List (V×V)) (va vb vo pa pb pe:WL) (used:List (List Nat)):R (Flow×Lo):=
 block (dM P FK) mv (EJ mt mk w) (sS t W (.view [(.str [97],tp va),(.str [98],tp vb),(.str [111],tp vo)] (tp AF)) pa pb pe used)
noncomputable def nA:Nat->Nat|0=>2|1=>2|2=>4|_=>3
noncomputable def nB:Nat->Nat|0=>3|1=>3|2=>2|_=>4
noncomputable def nO:Nat->Nat|0=>4|1=>4|2=>3|_=>2
noncomputable def rE:Nat->Int|0=>1|1=>4|2=>3|_=>2
noncomputable def rA:Nat->Int|0=>2|1=>1|2=>4|_=>3
noncomputable def rB:Nat->Int|0=>3|1=>2|2=>1|_=>4
noncomputable def rO:Nat->Int|0=>4|1=>3|2=>2|_=>1
noncomputable def HD (t j:Nat) (v pe:WL):V:=bif Mp.s.jL v.2 pe.2 pe.1 then .int j else bif Mp.s.pY v.2 pe.2 pe.1 then .none else .int (-(rE t))
noncomputable def Mo (t:Nat) (st:Nat) (va vb vo pe:WL):List V:=
 if st=nA t then [.int (-(rA t)),.int (-(rA t)),.int (-(rA t)),.int (-(rA t)),.int (-(rA t))]
 else if st=nB t then [.int (-(rB t)),.int (-(rB t)),.int (-(rB t)),.int (-(rB t)),.int (-(rB t))]
 else if st=1 then [.int (nA t),.int (nB t),.int (nO t),.none,.int 0]
 else if st=5 then [HD t (nA t) va pe,HD t (nB t) vb pe,HD t (nO t) vo pe,.int (-(rE t)),.int (-(rE t))]
 else if st=6 then [.int (nA t),.int (nB t),.int (nO t),.int 7,.none]
 else if st=7 then [.int (-(rO t)),.int (-(rO t)),.int (-(rO t)),.int (-(rO t)),.int (-(rO t))]
 else [.int (nA t),.int (nB t),.int (nO t),.none,.none]
noncomputable def iJ (t:Nat) (st:Nat):V:=if st=0 then .int 1 else if st=1 then .int 5 else if st=nO t then .int 6 else if st=5 then .int 5 else if st=6 then .int 5 else .none
noncomputable def tE (v pe:WL) (k:List Nat):List (Bool×V):=[(aP (Mp.s.jL v.2 pe.2 pe.1) (kP pe.2 0),.av [.int 5,.str k,.str [115,104,105,102,116]]),(aP (aP (eA (Mp.s.jL v.2 pe.2 pe.1)) (eA (Mp.s.pY v.2 pe.2 pe.1))) (aP (kP v.2 0) (kP pe.2 0)),.av [.int 5,.str k,.str [114,101,100,117,99,101]])]
noncomputable def pF (t:Nat) (va vb vo pe:WL):List (Bool×V):=match t with
 |0=>tE va pe [97]++(tE vb pe [98]++tE vo pe [111])|1=>tE va pe [97]++(tE vb pe [98]++tE vo pe [111])|2=>tE vb pe [98]++(tE vo pe [111]++tE va pe [97])|_=>tE vo pe [111]++(tE va pe [97]++tE vb pe [98])
noncomputable def Mq:List Nat->Nat
 |[97]=>0|[98]=>1|[111]=>2|[99]=>3|_=>4
noncomputable def iK (t:Nat) (va vb vo pe:WL) (st:Nat) (k:List Nat):V:=(Mo t st va vb vo pe).getD (Mq k) .none
noncomputable abbrev CD:Type:=(Bool×Nat)×(List (Option (Bool×List V))×List (Option (Bool×List V)))×List (Option V)×List (Option O)
noncomputable def Kc (lo:Lo) (s:Mp.St) (p:Nat×Nat) (la lg lc lr:Nat):CD:=(([p.2,la,lg,lc,lr,0,1].all λi=>QT i s.n,p.1),((RA 8).map (jK s la mw),(RA 8).map (jK s lg [[69]])),[35,52,64,41].map (ao lo),[s.get lc,s.get lr,s.get 0,s.get 1])
noncomputable def gF (r:R (Flow×Lo)):Option CD:=(OM r).bind λq=>(oO (ao q.1 51)).bind λp=>(oN (q.2.get p.2)).bind λfs=>(oL (ao fs 56)).bind λla=>(oL (ao fs 59)).bind λlg=>(oL (ao fs 70)).bind λlc=>(oL (ao fs 71)).bind λlr=>some (Kc q.1 q.2 p la lg lc lr)
noncomputable def gG (mk:Bool) (w:List Nat) (t:Nat) (W:List (V×V)) (va vb vo pe:WL):Option CD:=
 some ((true,3),((RA 8).map λst=>some (true,mw.map (iK t va vb vo pe st)),(RA 8).map λst=>some (true,[iJ t st])),[some (.ar 0),some (.ar 1),some (.bool mk),some (.str w)],[some (.dq (pF t va vb vo pe)),some (.list []),some (.dict W),some (.list (kH t))])
section
variable(mk:Bool)(w:List Nat)(W:List (V×V))(va vb vo pa pb pe:WL)(used:List (List Nat))
noncomputable abbrev qA:List Nat:=[76,65,76,82]
noncomputable abbrev Dq:List Nat:=[83,76,82]
theorem Kd:gF (tN qA mk w 0 W va vb vo pa pb pe used)=gG mk w 0 W va vb vo pe:=by kernel_rfl
theorem Ke:gF (tN qA mk w 1 W va vb vo pa pb pe used)=gG mk w 1 W va vb vo pe:=by kernel_rfl
theorem Kf:gF (tN qA mk w 2 W va vb vo pa pb pe used)=gG mk w 2 W va vb vo pe:=by kernel_rfl
theorem Kg:gF (tN qA mk w 3 W va vb vo pa pb pe used)=gG mk w 3 W va vb vo pe:=by kernel_rfl
theorem Kh:gF (tN Dq mk w 0 W va vb vo pa pb pe used)=gG mk w 0 W va vb vo pe:=by kernel_rfl
theorem Ki:gF (tN Dq mk w 1 W va vb vo pa pb pe used)=gG mk w 1 W va vb vo pe:=by kernel_rfl
theorem Kj:gF (tN Dq mk w 2 W va vb vo pa pb pe used)=gG mk w 2 W va vb vo pe:=by kernel_rfl
theorem Kk:gF (tN Dq mk w 3 W va vb vo pa pb pe used)=gG mk w 3 W va vb vo pe:=by kernel_rfl
end
theorem t5(mt:List Nat)(hm:mt=qA\/mt=Dq)(t:Nat)(ht:t<4)(mk:Bool)(w:List Nat)(W:List (V×V))(va vb vo pa pb pe:WL)(used:List (List Nat)):
  gF (tN mt mk w t W va vb vo pa pb pe used)=gG mk w t W va vb vo pe:=by
 rcases hm with rfl|rfl
 .match t,ht with
  |0,_=>exact Kd ..|1,_=>exact Ke ..|2,_=>exact Kf ..|3,_=>exact Kg ..
 .match t,ht with
  |0,_=>exact Kh ..|1,_=>exact Ki ..|2,_=>exact Kj ..|3,_=>exact Kk ..
end
end
section
section
noncomputable def nS (l:List Mp.S) (i:Nat):Mp.S:=l.getD i .ue
noncomputable def Lx:Mp.S->List Mp.S
 |.ba _ _ _ b _=>b|.bP _ b _=>b|.cond _ b _=>b|_=>[]
noncomputable def Pn:Mp.S->List Mp.S
 |.cond _ _ o=>o|_=>[]
noncomputable def ON:Mp.S->Mp.E
 |.bP t _ _=>t|_=>.none
variable{c:Ctx}{lo:Lo}{s s1 s2 s3 s4:Mp.St}{x y z w:Mp.E}{a b v u:V}{i:Int}{k m:Nat}{r:R V}
theorem hG(h:dE P x c lo s=.ok (.int i) s1):dE P (.neg x) c lo s=.ok (.int (-i)) s1:=bd h rfl
theorem e9{o:qF}(h:dE P x c lo s=.ok a s1)(h2:dE P y c lo s1=.ok b s2)(h3:fX o a b s2=r):dE P (.dX o x y) c lo s=r:=bd h (bd h2 h3)
theorem eS(h:dE P x c lo s=.ok a s1)(h2:dE P y c lo s1=.ok b s2)(h3:dE P z c lo s2=.ok u s3)(h4:dE P w c lo s3=.ok v s4)(h5:cz a b u v s4=r):dE P (.bN x y z w) c lo s=r:=bd h (bd h2 (bd h3 (bd h4 h5)))
section
variable{l:List Mp.E}{vs:List V}
theorem gH(h:gO (cW P l) c lo s=.ok vs s1):dE P (.list l) c lo s=.ok (.ar s1.n) (s1.new (.list vs)):=bd h rfl
theorem gI(h:gO (cW P l) c lo s=.ok vs s1)(h2:c.call k vs s1=r):dE P (.call k l) c lo s=r:=bd h h2
noncomputable def Kl (c:Ctx) (k:Nat) (v:V) (s:Mp.St):R V:=match v with
 |.bc j d=>match P8 k 0 with|true=>Dx P c j d s|false=>.no 114
 |v=>ed k v s
theorem vF(h:dE P x c lo s=.ok v s1)(h2:Kl c k v s1=r):dE P (.aS k [x]) c lo s=r:=bd (ew h) h2
theorem Mr(h:dE P x c lo s=.ok v s1)(h':dE P y c lo s1=.ok u s2)(h2:nG k v u s2=r):dE P (.aS k [x,y]) c lo s=r:=bd (cx h h') h2
theorem xJ{j:Nat}{xs ys:List (V×V)}(h:dE P x c lo s=.ok (.ar j) s1)(g:s1.get j=some (.dict xs))(h2:gO (cW P l) c lo s1=.ok vs s2)(g2:s2.get j=some (.dict ys))(h3:qI ys m vs s2=r):dE P (.aH x m l) c lo s=r:=
 bd h (by dsimp only;rw[g];exact nx h2 (by rw[g2];exact h3))
theorem tO{xs:List Nat}{it ifs:List Mp.E}{q:It}(h:j5 k (cW P it) c lo s=.ok q s1)(h2:Mp.e.fb (dE P x) xs (Mp.e.ifs (cW P ifs)) c c.n q [] lo s1=.ok vs s2):dE P (.comp x xs k it ifs) c lo s=.ok (.ar s2.n) (s2.new (.list vs)):=bd h (nx h2 rfl)
theorem EK{es:List (V×V)}{xs:List Nat}{it ifs:List Mp.E}{q:It}(h:j5 k (cW P it) c lo s=.ok q s1)(h2:Mp.e.gP (dE P x) (dE P y) xs (Mp.e.ifs (cW P ifs)) c c.n q [] lo s1=.ok es s2):dE P (.lT x y xs k it ifs) c lo s=.ok (.ar s2.n) (s2.new (.dict es)):=bd h (nx h2 rfl)
end
theorem mD{t:Bool}(h:ea (dE P x) c lo s=.ok t s1)(h2:@PS (λzz=>R V) (dE P z c lo s1) (dE P y c lo s1) t=r):dE P (.ite x y z) c lo s=r:=bd h h2
section
variable{l:Nat}{vs xs:List V}{es:List (V×V)}
theorem yY{n j:Nat}(h:j<n):fh n (j:Int)=some j:=by show fh n (.ofNat j)=_;unfold fh;dsimp only;rw[show QT j n=true from QR.mpr h]
theorem fF{j:Nat}(h:j<1000):small (j:Int)=true:=QR.mpr (PN h (by decide))
theorem kI{j:Nat}(h:vs[j]?=some v)(hr:vs.length<1000):cY vs (.int j) s=.ok v s:=
 have h1:=(PX.mp h).1
 xD (fF (QD h1 hr)) ((aJ vs).symm▸yY h1) h
theorem CE:cY (xs++[v]) (.int (-1)) s=.ok v s:=
 xD rfl (by rw[aJ,PH];rfl) List.getElem?_concat_length
theorem xK{w:List Nat}{p x:Nat}(h:w[p]?=some x)(hw:w.length<1000):vX w (.int p) s=.ok (.str [x]) s:=by have h1:=(PX.mp h).1;unfold vX;dsimp only;rw[fF (QD h1 hw),aJ,yY h1];dsimp only;rw[bz,h]
theorem ju(g:s.get l=some (.list vs))(e:vs=xs++[v]):cN (.ar l) (.int (-1)) s=.ok v s:=iC g (e▸CE)
theorem Po(k:aA b=true):qI es 2 [b] s=.ok (match aE es b with|some v=>v|.none=>.none) s:=by refine(?_:zw es [b] s=_);unfold zw;dsimp only;rw[k];cases aE es b<;>rfl
theorem Km(k:aA b=true):qI es 2 [b,u] s=.ok ((aE es b).getD u) s:=by refine(?_:zw es [b,u] s=_);unfold zw;dsimp only;rw[k];cases aE es b<;>rfl
theorem jh{n k:Nat}:aV n (k:Int)=min k n:=by
 unfold aV;dsimp only;cases z:Nat.ble k n with
 |true=>exact(Rx (QR.mp z)).symm|false=>exact(Nat.min_eq_right (Nat.le_of_not_le λh=>by rw[QR.mpr h] at z;exact tf z)).symm
theorem vG{n k:Nat}(h1:0<k):aV n (-(k:Int))=n-k:=by
 induction k with
 |zero=>cases h1
 |succ j=>exact(Nat.sub_right_comm n 1 j).trans (Nat.sub_sub n j 1)
end
theorem gn{o:O}:(s.new o).get s.n=some o:=(St.gk ..).trans (if_pos rfl)
theorem t6{i:Nat}{o:O}{q:Option O}(h:i<s.n)(e:s.get i=q):(s.new o).get i=q:=(St.gk ..).trans ((if_neg (Qw h)).trans e)
noncomputable def Kp (s s':Mp.St):Prop:=s.n<=s'.n/\∀i,i<s.n->s'.get i=s.get i
theorem Kp.trans{s s' s'':Mp.St}(h:Kp s s')(h':Kp s' s''):Kp s s'':=⟨PN h.1 h'.1,λi hi=>(h'.2 i (PZ hi h.1)).trans (h.2 i hi)⟩
theorem Kp.new(s:Mp.St)(o:O):Kp s (s.new o):=⟨R5 _,λzz hi=>t6 hi rfl⟩
theorem Kp.refl(s:Mp.St):Kp s s:=⟨P5 _,λzz zz=>rfl⟩
theorem Kp.nw{s s':Mp.St}(h:Kp s s')(o:O):Kp s (s'.new o):=h.trans (Kp.new _ _)
theorem Kp.get{s s':Mp.St}(h:Kp s s'){i:Nat}(hi:i<s.n){q:Option O}(e:s.get i=q):s'.get i=q:=(h.2 i hi).trans e
noncomputable def Cl (q:R V) (v:V) (s:Mp.St):Prop:=∃s',q=.ok v s'/\Kp s s'
noncomputable def Ay (q:R (Flow×Lo)) (v:V) (s:Mp.St):Prop:=∃lo' s',q=.ok (.ret v,lo') s'/\Kp s s'
section
variable{l:Nat}{vs xs ys:List V}{es:List (V×V)}
theorem FN(g:s.get l=some (.list vs))(hr:vs.length<1000)(e:aW vs a b u=some ys):cz (.ar l) a b u s=.ok (.ar s.n) (s.new (.list ys)):=by unfold cz;dsimp only;rw[g];dsimp only;rw[Cm hr];dsimp only;rw[e]
theorem EL(h:0<ys.length):aW (xs++ys) (.int (-(ys.length:Int))) .none .none=some ys:=by refine(?_:some (drop _ _)=_);rw[vG h,aJ,eh,PH,Nat.add_sub_cancel,List.drop_left]
theorem tP{k:Nat}(h:0<k)(e:ys.length=k):aW (xs++ys) .none (.int (-(k:Int))) .none=some xs:=by refine(?_:some (take _ _)=_);rw[vG h,aJ,eN,PH,e,Nat.add_sub_cancel,List.take_left]
theorem EM{k:Nat}(h:k<=xs.length):aW xs .none (.int k) .none=some (xs.take k):=by refine(?_:some (take _ _)=_);rw[jh,aJ,eN,Rx h]
theorem EN{k:Nat}(h:k<=xs.length):aW xs (.int k) .none .none=some (xs.drop k):=by refine(?_:some (drop _ _)=_);rw[jh,aJ,eh,Rx h]
theorem HE:aW xs .none .none (.int (-1))=some xs.reverse:=congrArg some (nK xs)
theorem yZ{α:Type}{l:List α}(h:l.length<1000):nE l=some (l.length:Int):=by unfold nE;rw[Cm h,aJ]
theorem xM{l:List Nat}{n:Nat}(e:l.length=n)(h:n<1000):Kl c 0 (.str l) s=.ok (.int n) s:=by subst e;refine(?_:(match nE l with|some n=>_|.none=>_)=_);rw[yZ h]
theorem Kn{i j:Int}(e:i=j)(h:cY vs (.int j) s=r):cY vs (.int i) s=r:=e▸h
noncomputable def IV (S:List Nat):List V:=S.map λ(i:Nat)=>V.int (i:Int)
theorem lN{S T:List Nat}:IV (S++T)=IV S++IV T:=QZ
theorem tQ{S:List Nat}{j:Nat}:IV S++[.int (j:Int)]=IV (S++[j]):=(lN (T:=[j])).symm
theorem pG{S:List Nat}:(IV S).length=S.length:=P9 _
theorem HF(g:s.get l=some (.list vs))(h:vs.length<1000):ud (.ar l) s=some (vs.length:Int):=by unfold ud;dsimp only;rw[g];exact yZ h
theorem y0(g:s.get l=some (.list vs))(h:vs.length<1000):Kl c 0 (.ar l) s=.ok (.int vs.length) s:=by refine(?_:(match ud (.ar l) s with|some n=>_|.none=>_)=_);rw[HF g h]
theorem CG(g:s.get l=some (.list vs))(h:vs.length<1000):Kl c 9 (.ar l) s=.ok (.av vs) s:=by refine(?_:(match s.get l with|some (.list vs)=>(match aN (len vs) with|true=>R.ok (V.av vs) s|false=>_)|_=>_)=_);rw[g];dsimp only;rw[Cm h]
theorem nv(g:s.get l=some (.list vs))(hr:vs.length<1000):aM (.ar l) s=some (Ld vs):=by unfold aM;dsimp only;rw[g];dsimp only;unfold nD;rw[Cm hr]
theorem ny(g:s.get l=some (.list vs)):fJ (.ar l) s=some (.list l 0):=by unfold fJ;dsimp only;rw[g]
theorem FO{m:Nat}{t:Bool}(g:s.get l=some (.list xs))(g2:s.get m=some (.list ys))(e:Ip xs ys=some t):iF .eq (.ar l) (.ar m) s=some t:=by refine(?_:Ff (.ar l) (.ar m) s=_);unfold Ff;dsimp only;rw[g];dsimp only;rw[g2];exact e
theorem EO(g:s.get l=some (.list xs))(e:iG xs=some ys):Kl c 8 (.ar l) s=.ok (.ar s.n) (s.new (.list ys)):=by refine(?_:(match s.get l with|some (.list vs)=>(match iG vs with|some r=>R.ok (V.ar s.n) (s.new (.list r))|.none=>_)|_=>_)=_);rw[g];dsimp only;rw[e]
theorem EP(g:s.get l=some (.list vs)):iF .mF a (.ar l) s=contains a vs:=by refine(?_:H6 a (.ar l) s=_);unfold H6;dsimp only;rw[g]
theorem sx{m:Nat}(g:s.get l=some (.list xs))(g2:s.get m=some (.list ys))(r:xs.length+ys.length<1000):fX .add (.ar l) (.ar m) s=.ok (.ar s.n) (s.new (.list (xs++ys))):=by unfold fX;dsimp only;rw[g];dsimp only;rw[g2];dsimp only;rw[aJ,aJ,show aN (xs.length+ys.length)=true from QR.mpr (PN r (by decide)),bx]
theorem rQ{i j:Int}(h:i≠j):kP i j=false:=by
 cases e:kP i j with
 |false=>rfl|true=>exact absurd ((ej _ _).mp e) h
theorem y5{i j:Int}(h:¬i<j):gM i j=false:=by
 cases e:gM i j with
 |false=>rfl|true=>exact absurd ((de _ _).mp e) h
theorem y6:Mp.e.yd (j9 (cW P []) (cW P [])) c lo s=.ok [] s:=rfl
theorem ji{K W:List Mp.E}{q:List (V×V)}(h:dE P x c lo s=.ok a s1)(h2:dE P y c lo s1=.ok b s2)(h3:Mp.e.yd (j9 (cW P K) (cW P W)) c lo s2=.ok q s3):Mp.e.yd (j9 (cW P (x::K)) (cW P (y::W))) c lo s=.ok ((a,b)::q) s3:=bd h (bd h2 (bd h3 rfl))
theorem Pp(hr:vs.length<1000)(e:aW vs a b u=some ys):cz (.cX vs) a b u s=.ok (.ar s.n) (s.new (.list ys)):=by unfold cz;dsimp only;rw[Cm hr];dsimp only;rw[e]
theorem HG{k:Nat}:aW xs .none (.int k) .none=some (xs.take (min k xs.length)):=by refine(?_:some (take _ _)=_);rw[jh,aJ,eN]
theorem ER{q:V}(g:s.get l=some (.dict es))(k:aA q=true)(hr:es.length<1000):fK (.ar l) q v s=.ok () (s.bU l (.dict (bD es q v))):=by unfold fK;dsimp only;rw[g];dsimp only;rw[k];dsimp only;rw[Cm hr]
theorem Ms(hr:(v::vs).length<1000):j4 l (v::vs) 1 [.int 0] s=.ok v (s.bU l (.list vs)):=by refine(?_:(match aN (len (v::vs)) with|true=>R.ok v (s.bU l (.list vs))|false=>_)=_);rw[Cm hr]
theorem y7{i j:Int}(h:0<j):fX .vV (.int i) (.int j) s=.ok (.int (Int.fmod i j)) s:=by unfold fX;dsimp only;rw[(de _ _).mpr h]
theorem CH{m k:Nat}(h:aP (gM 0 (k:Int)) (small k)=true):fX .fdiv (.int m) (.int k) s=.ok (.int ((m/k:Nat):Int)) s:=by unfold fX;dsimp only;rw[h,Int.ofNat_fdiv]
theorem CI{x y:List Nat}(h:x.length+y.length<1000):fX .add (.str x) (.str y) s=.ok (.str (x++y)) s:=by unfold fX;dsimp only;rw[aJ,aJ,show aN (x.length+y.length)=true from QR.mpr (PN h (by decide)),bx]
theorem tR{K W:List Mp.E}{q:List (V×V)}(h:Mp.e.yd (j9 (cW P K) (cW P W)) c lo s=.ok q s1)(e:Mp.e.Di q []=some es):dE P (.dict K W) c lo s=.ok (.ar s1.n) (s1.new (.dict es)):=bd h (by rw[e])
end
section
variable{lo1 lo2:Lo}{S:Mp.S}{B D:List Mp.S}{q:R (Flow×Lo)}
theorem bZ(h:dE P x c lo s=.ok v s1):dS P (.aq (.vr k) x) c lo s=.ok (.next,a9 lo k v) s1:=bd h rfl
theorem FP{k2:Nat}(h:dE P x c lo s=.ok (.av [a,b]) s1):dS P (.aq (.av [.vr k,.vr k2]) x) c lo s=.ok (.next,a9 (a9 lo k a) k2 b) s1:=bd h rfl
theorem fm(h:dE P x c lo s=.ok v s1):dS P (.ret x) c lo s=.ok (.ret v,lo) s1:=bd h rfl
theorem FQ{o:qF}(g:ao lo k=some a)(h:dE P x c lo s=.ok b s1)(h2:rX o a b s1=.ok v s2):dS P (.j7 k o x) c lo s=.ok (.next,a9 lo k v) s2:=oo g (bd h (bd h2 rfl))
theorem ES{D:List Mp.S}(h:bb (Mp.s.v7 (dE P x) (block (dM P B)) (block (dM P D)) c c.n lo s)=q):dS P (.bP x B D) c lo s=q:=h
theorem CJ{t:Mp.T}{it:List Mp.E}{j:It}(h:j5 k (cW P it) c lo s=.ok j s1)(h2:bb (Mp.s.iT (dT P t) (block (dM P B)) (block (dM P D)) c c.n j lo s1)=q):dS P (.ba t k it B D) c lo s=q:=bd h h2
theorem cV(h:dS P S c lo s=.ok (.ret v,lo1) s1):block (dM P (S::B)) c lo s=.ok (.ret v,lo1) s1:=bd h rfl
theorem pH{α:Type}{o:Option (Option (V×It))}{p:V×It}{f:V->It->R α}{g k q:R α}(h:o=some (some p))(e:f p.1 p.2=q):(match(generalizing:=false) o with|some (some (v,j))=>f v j|some .none=>g|.none=>k)=q:=h▸e
theorem CK{α:Type}{o:Option (Option (V×It))}{f:V->It->R α}{g k q:R α}(h:o=some .none)(e:g=q):(match(generalizing:=false) o with|some (some (v,j))=>f v j|some .none=>g|.none=>k)=q:=h▸e
theorem nz{i n:Nat}(h:i<n):Mp.next (.range (i:Int) (n:Int)) s=some (some (.int i,.range ((i+1:Nat):Int) n)):=by refine(?_:(match gM (i:Int) (n:Int) with|true=>_|false=>_)=_);rw[(de _ _).mpr (Ro.mpr h)];rfl
theorem CL{i n:Int}(h:¬i<n):Mp.next (.range i n) s=some .none:=by refine(?_:(match gM i n with|true=>_|false=>_)=_);rw[y5 h]
theorem lO{l i:Nat}{vs:List V}(g:s.get l=some (.list vs))(h:vs[i]?=some v):Mp.next (.list l i) s=some (some (v,.list l (i+1))):=by refine(?_:(match s.get l with|some (.list vs)=>_|_=>_)=_);rw[g];dsimp only;rw[bz,h]
theorem xN{l i:Nat}{vs:List V}(g:s.get l=some (.list vs))(h:vs.length<=i):Mp.next (.list l i) s=some .none:=by refine(?_:(match s.get l with|some (.list vs)=>_|_=>_)=_);rw[g];dsimp only;rw[bz,List.getElem?_eq_none h]
section
variable{tc:TC}{C D:SC}{n:Nat}{j j':It}{lo3:Lo}
theorem lP(h:Mp.next j s=some (some (v,j')))(h2:tc v c lo s=.ok lo1 s1)(h3:C c lo1 s1=.ok (.next,lo2) s2)(h4:Mp.s.iT tc C D c n j' lo2 s2=q):Mp.s.iT tc C D c (n+1) j lo s=q:=pH h (bd h2 (bd h3 h4))
theorem Ko(h:Mp.next j s=some (some (v,j')))(h2:tc v c lo s=.ok lo1 s1)(h3:C c lo1 s1=.ok (.ret u,lo2) s2):Mp.s.iT tc C D c (n+1) j lo s=.ok (.ret u,lo2) s2:=pH h (bd h2 (bd h3 rfl))
theorem FR(h:Mp.next j s=some .none)(h2:D c lo s=q):Mp.s.iT tc C D c (n+1) j lo s=q:=CK h h2
end
theorem CM(h:dE P x c lo s=.ok (.int i) s1)(e:small i=true):j5 1 (cW P [x]) c lo s=.ok (.range 0 i) s1:=bd (ew h) (by dsimp only;rw[e];rfl)
theorem CN{j:Int}(h:dE P x c lo s=.ok (.int i) s1)(h2:dE P y c lo s1=.ok (.int j) s2)(e:aP (small i) (small j)=true):j5 1 (cW P [x,y]) c lo s=.ok (.range i j) s2:=bd (cx h h2) (by dsimp only;rw[e];rfl)
theorem mh{j:It}(h:dE P x c lo s=.ok v s1)(e:fJ v s1=some j):j5 0 (cW P [x]) c lo s=.ok j s1:=bd (ew h) (op e)
end
section
variable{e1 e2:Code V}{xs:List Nat}{is:Code Bool}{n:Nat}{j j':It}{acc vs:List V}{lo lo1:Lo}{r:R (List V)}
theorem bn{α:Type}{o:Option Lo}{f:Lo->R α}{k q:R α}(h:o=some lo1)(e:f lo1=q):(match(generalizing:=false) o with|some lo'=>f lo'|.none=>k)=q:=h▸e
theorem CO(h:Mp.next j s=some (some (v,j')))(hb:bf xs v lo=some lo1)(hi:is c lo1 s=.ok true s1)(he:e1 c lo1 s1=.ok u s2)(hr:acc.length<1000)(h2:Mp.e.fb e1 xs is c n j' (acc++[u]) lo1 s2=r):Mp.e.fb e1 xs is c (n+1) j acc lo s=r:=pH h (bn hb (bd hi (bd he (by rw[Cm hr,bx];exact h2))))
theorem HH(h:Mp.next j s=some (some (v,j')))(hb:bf xs v lo=some lo1)(hi:is c lo1 s=.ok false s1)(h2:Mp.e.fb e1 xs is c n j' acc lo1 s1=r):Mp.e.fb e1 xs is c (n+1) j acc lo s=r:=pH h (bn hb (bd hi h2))
theorem y8(h:Mp.next j s=some .none):Mp.e.fb e1 xs is c (n+1) j acc lo s=.ok acc s:=CK h rfl
theorem CP{α:Type}{l:Nat}{ys:List α}{g f:α->V}(gl:s.get l=some (.list (ys.map g)))(hr:ys.length<1000)(h:∀x lo,∃lo',bf xs (g x) lo=some lo'/\e1 c lo' s=.ok (f x) s):∀(m i:Nat) (lo:Lo),i+m=ys.length->Mp.e.fb e1 xs (Mp.e.ifs (cW P [])) c (n+(m+1)) (.list l i) ((ys.take i).map f) lo s=.ok (ys.map f) s
 |0=>λi lo he=>by subst he;exact(y8 (xN gl (Qa (P9 ..)))).trans (by rw[List.take_length])
 |m+1=>λi lo he=>by have hi:i<ys.length:=fk (Qa he);refine PW (h ys[i] lo) λlo' hz0=>?_;have ih:=CP gl hr h m (i+1) lo' ((Nat.succ_add i m).trans he);rw[List.take_add_one,PK hi,QZ] at ih;exact CO (lO gl ((Qt ..).trans (congrArg (Option.map g) (PK hi)))) hz0.1 rfl hz0.2 (PY (PN (Qa (P9 ..)) (List.length_take_le' ..)) hr) ih
theorem Kq{e2:Code V}{acc:List (V×V)}{r:R (List (V×V))}(h:Mp.next j s=some (some (v,j')))(hb:bf xs v lo=some lo1)(hi:is c lo1 s=.ok true s1)(hk:e1 c lo1 s1=.ok a s2)(he:e2 c lo1 s2=.ok u s3)(ky:aA a=true)(hr:acc.length<1000)(h2:Mp.e.gP e1 e2 xs is c n j' (bD acc a u) lo1 s3=r):Mp.e.gP e1 e2 xs is c (n+1) j acc lo s=r:=pH h (bn hb (bd hi (bd hk (bd he (by rw[ky,Cm hr];exact h2)))))
theorem Kr{e2:Code V}{acc:List (V×V)}(h:Mp.next j s=some .none):Mp.e.gP e1 e2 xs is c (n+1) j acc lo s=.ok acc s:=CK h rfl
theorem vH{t:Bool}(h:ea (dE P x) c lo s=.ok t s1):Mp.e.ifs (cW P [x]) c lo s=.ok t s1:=bd h (by clear h;induction t<;>rfl)
end
section
variable{t b o:Code V}{B D:SC}{n:Nat}{lo lo1:Lo}{q:R (Flow×Lo)}
theorem Ks(h:ea t c lo s=.ok true s1)(h2:B c lo s1=.ok (.next,lo1) s2)(h3:Mp.s.v7 t B D c n lo1 s2=q):Mp.s.v7 t B D c (n+1) lo s=q:=bd h (bd h2 h3)
theorem Kt(h:ea t c lo s=.ok true s1)(h2:B c lo s1=.ok (.ret v,lo1) s2):Mp.s.v7 t B D c (n+1) lo s=.ok (.ret v,lo1) s2:=bd h (bd h2 rfl)
theorem CQ(h:ea t c lo s=.ok false s1)(h2:D c lo s1=q):Mp.s.v7 t B D c (n+1) lo s=q:=bd h h2
end
theorem y9(a b:List Nat):hJ a b=decide (a=b):=by
 cases h:hJ a b with
 |true=>exact(decide_eq_true ((gh _ _).mp h)).symm|false=>exact(decide_eq_false λe=>Qu (h.symm.trans ((gh _ _).mpr e))).symm
end
set_option genInjectivity false
open Mp.s (oI oS oL oO oD oV oN oT)
section
structure Tb (s0:Mp.St) (d la lg B:Nat) (A:Nat->List Nat->V) (G:Nat->V) (bs:List V):Prop where
 hd:d<s0.n
 oE:∃fs,s0.get d=some (.ns fs)/\ao fs 56=some (.ar la)/\ao fs 59=some (.ar lg)
 Ku:la<s0.n
 Kv:lg<s0.n
 hB:B<s0.n
 Mt:s0.get B=some (.list bs)
 qy:∀st,st<8->jK s0 la mw st=some (true,mw.map (A st))
 GB:∀st,st<8->jK s0 lg [[69]] st=some (true,[G st])
section
variable{s s':Mp.St}{l st r:Nat}{ks:List (List Nat)}{vs:List V}{qy row:List (V×V)}
theorem xO(h:jK s l ks st=some (true,vs)):∃qy r row,s.get l=some (.dict qy)/\aE qy (.int st)=some (.ar r)/\r<s.n/\s.get r=some (.dict row)/\ks.map (yX row)=vs:=by refine aa (PV.mp h) λqy a1 h=>?_;refine aa (PV.mp h) λr a2 h=>?_;refine aa (PV.mp h) λrow a3 h=>?_;obtain⟨h1,h2⟩:=RW (PD h);exact ug qy r row (nr a1) (ey a2) (QR.mp h1) (nr a3) h2
theorem tS(h:jK s l ks st=some (true,vs))(hn:s.n<=s'.n)(hg:∀ {i es},s.get i=some (.dict es)->i<s.n->s'.get i=some (.dict es))(hl:l<s.n):jK s' l ks st=some (true,vs):=by refine AK (xO h) λqy r row hz0=>?_;unfold jK;rw[hg hz0.1 hl];refine(?_:(oL (aE qy (.int st))).bind _=_);rw[hz0.2.1];refine(?_:(oD (s'.get r)).bind _=_);rw[hg hz0.2.2.2.1 hz0.2.2.1];refine(?_:some (Nat.ble (r+1) s'.n,_)=_);rw[QR.mpr (PZ hz0.2.2.1 hn),hz0.2.2.2.2]
theorem CR{k:List Nat}{j:Int}(h:yX row k=.int j):aE row (.str k)=some (.int j):=by
 unfold yX at h;revert h;cases aE row (.str k) with
 |none=>exact(λzq=>False.elim (noConfusion_of_Nat Mp.V.ctorIdx zq))|some v=>exact congrArg some
end
theorem Tb.Kw{s0:Mp.St}{d la lg B q:Nat}{A:Nat->List Nat->V}{G:Nat->V}{bs:List V}{g:Int}(tb:Tb s0 d la lg B A G bs)(hq:q<8)(hg:G q=.int g):∃qy r row,s0.get lg=some (.dict qy)/\aE qy (.int q)=some (.ar r)/\r<s0.n/\s0.get r=some (.dict row)/\aE row (.str [69])=some (.int g):=by refine AK (xO (tb.GB q hq)) λqy r row hz0=>?_;exact ug qy r row hz0.1 hz0.2.1 hz0.2.2.1 hz0.2.2.2.1 (CR ((Qr hz0.2.2.2.2).1.trans hg))
structure Cf (A:Nat->List Nat->V) (vd:Nat->List Nat) (rE x n:Nat):Prop where
 z:vd x=[]->A 5 [x]=.none
 s:vd x=[115,104,105,102,116]->A 5 [x]=.int n
 r:vd x=[114,101,100,117,99,101]->A 5 [x]=.int (-(rE:Int))
 o:vd x=[]\/vd x=[115,104,105,102,116]\/vd x=[114,101,100,117,99,101]
structure Kx (A:Nat->List Nat->V) (G:Nat->V) (bs:List V) (nA nB nO:Nat) (rE rA rB rO:Nat) (vd:Nat->List Nat):Prop where
 hA:0<nA/\nA<8
 hB:0<nB/\nB<8
 hO:0<nO/\nO<8
 sh:∀st∈[0,1,nO,6],(A st [97],A st [98],A st [111])=(.int nA,.int nB,.int nO)
 e0:∀st∈[0,nO],(A st [99],A st [36,101,110,100])=(.none,.none)
 e1:A 1 [99]=.none/\A 1 [36,101,110,100]=.int 0
 e6:A 6 [99]=.int 7/\A 6 [36,101,110,100]=.none
 ra:∀k∈mw,(A nA k,A nB k,A 7 k)=(.int (-(rA:Int)),.int (-(rB:Int)),.int (-(rO:Int)))
 re:A 5 [99]=.int (-(rE:Int))/\A 5 [36,101,110,100]=.int (-(rE:Int))
 cA:Cf A vd rE 97 nA
 cB:Cf A vd rE 98 nB
 cO:Cf A vd rE 111 nO
 g:G 0=.int 1/\G 1=.int 5/\G nO=.int 6/\G 5=.int 5/\G 6=.int 5
 r:0<rE/\0<rA/\0<rB/\0<rO
 bE:bs[rE-1]?=some (.str [69,69])
 bA:bs[rA-1]?=some (.str [97])
 bB:bs[rB-1]?=some (.str [98])
 bO:bs[rO-1]?=some (.str [111,69,99])
 bl:bs.length<1000
structure Ma where
 s0:Mp.St
 w:List Nat
 d:Nat
 la:Nat
 lg:Nat
 B:Nat
 A:Nat->List Nat->V
 G:Nat->V
 bs:List V
 c:Ctx
 nA:Nat
 nB:Nat
 nO:Nat
 rE:Nat
 rA:Nat
 rB:Nat
 rO:Nat
 vd:Nat->List Nat
 tb:Tb s0 d la lg B A G bs
 mc:Kx A G bs nA nB nO rE rA rB rO vd
 hL:∀x∈w,x=97\/x=98\/x=111\/x=99
 hw:w.length<300
noncomputable def kJ (suf:List Nat):List Nat:=match suf with|c::_=>[c]|[]=>[36,101,110,100]
theorem HI{w:List Nat}{p:Nat}{s:Mp.St}(hp:p<=w.length)(hw:w.length<1000):cz (.str w) (.int p) (.int (p+1:Nat)) .none s=.ok (.str ((w.drop p).take 1)) s:=by
 have e:drop (take w (min (p+1) (len w))) (min p (len w))=(w.drop p).take 1:=by
  rw[eh,eN,aJ,Rx hp,List.drop_take];refine QK (Nat.lt_or_ge p w.length) (λh=>?_) λh=>?_
  .rw[Rx h,Nat.succ_sub (P5 p),Nat.sub_self]
  .rw[List.drop_eq_nil_of_le h,List.take_nil,List.take_nil]
 unfold cz;dsimp only;rw[Cm hw];dsimp only;unfold aW;dsimp only;rw[jh,jh,e]
theorem CS{w:List Nat}{p:Nat}{c:Ctx}{lo:Lo}{s:Mp.St}(h1:ao lo 41=some (.str w))(h2:ao lo 49=some (.int p))(hp:p<=w.length)(hw:w.length<1000):dE P (.bN (.vr 41) (.vr 49) (.dX .add (.vr 49) (.int 1)) .none) c lo s=.ok (.str ((w.drop p).take 1)) s:=eS (ai h1) (ai h2) (e9 (ai h2) aK rfl) bj (HI hp hw)
theorem HJ{w:List Nat}{p:Nat}{c:Ctx}{lo:Lo}{s:Mp.St}(h1:ao lo 41=some (.str w))(h2:ao lo 49=some (.int p))(hp:p<=w.length)(hw:w.length<1000):dE P (.or [.bN (.vr 41) (.vr 49) (.dX .add (.vr 49) (.int 1)) .none,.str [36,101,110,100]]) c lo s=.ok (.str (kJ (w.drop p))) s:=by
 have hs:=CS (c:=c) (s:=s) h1 h2 hp hw;cases e:w.drop p with
 |nil=>rw[e] at hs;exact pv hs rfl rfl|cons x l=>rw[e] at hs;exact pv hs rfl rfl
structure Mu (M:Ma) (lo:Lo) (s:Mp.St) (S:List Nat) (T:List V) (ls lt:Nat):Prop where
 k1:ao lo 53=some (.ar ls)
 k2:ao lo 46=some (.ar lt)
 k3:M.s0.n<=ls
 k4:M.s0.n<=lt
 k5:ls≠lt
 k6:ls<s.n
 k7:lt<s.n
 k8:s.get ls=some (.list (IV S))
 k9:s.get lt=some (.list T)
structure gJ (M:Ma) (lo:Lo) (s:Mp.St) (S:List Nat) (T:List V) (p:Nat):Prop where
 tT:ao lo 51=some (.bc 3 M.d)
 FT:ao lo 52=some (.ar M.B)
 qB:ao lo 41=some (.str M.w)
 qC:ao lo 49=some (.int p)
 l:∃ls lt,Mu M lo s S T ls lt
 kp:Kp M.s0 s
section
variable{M:Ma}{lo:Lo}{s:Mp.St}{S:List Nat}{T:List V}{p gu:Nat}{v:V}
theorem tU:kJ (M.w.drop p)∈mw:=by
 cases h:M.w.drop p with
 |nil=>exact .tail _ (.tail _ (.tail _ (.tail _ (.head _))))|cons x xs=>
  rcases M.hL x (List.mem_of_mem_drop (h▸PJ)) with rfl|rfl|rfl|rfl
  .exact .head _
  .exact .tail _ (.head _)
  .exact .tail _ (.tail _ (.head _))
  .exact .tail _ (.tail _ (.tail _ (.head _)))
theorem Mv:M.w.length<1000:=QD M.hw (by decide)
theorem gJ.at(h:gJ M lo s S T p){i:Nat}(hi:i<M.s0.n){q:Option O}(e:M.s0.get i=q):s.get i=q:=h.kp.get hi e
theorem za(h:gJ M lo s (S++[gu]) T p)(ht:gu<8)(hp:p<=M.w.length)(ha:M.A gu (kJ (M.w.drop p))=v):
  dE P (.aH (.az (.ah (.vr 51) 56) (.az (.vr 53) (.neg (.int 1)))) 2 [.or [.bN (.vr 41) (.vr 49) (.dX .add (.vr 49) (.int 1)) .none,.str [36,101,110,100]]]) M.c lo s=.ok v s:=by
 refine mZ h.l λls lt k=>?_;refine aO M.tb.oE λfs t1 t2 t3=>?_;refine fZ (xO (M.tb.qy gu ht)) λqy r row a1 a3 a4 a5 a6=>?_;exact xJ (bw (jZ (ai h.tT) (h.at M.tb.hd t1) t2) (bw (ai k.k1) (hG aK) (ju k.k8 lN)) (dN (h.at M.tb.Ku a1) rfl a3)) (h.at a4 a5) (ew (HJ h.qB h.qC hp Mv)) (h.at a4 a5) ((Po rfl).trans (congrArg (R.ok · s) ((List.map_inj_left.mp a6 _ tU).trans ha)))
end
end
set_option genInjectivity false
open Mp.s (oI oS oL oO oD oV oN oT)
section
noncomputable def gK:List Mp.S:=Lx (nS Lu 3)
noncomputable def Mw:List Mp.S:=gK.drop 2
noncomputable def Mx:List Mp.S:=Pn (nS gK 3)
noncomputable def pI:List V->V
 |[t]=>t|[t,u]=>.av [t,u]|[_,u,_]=>.av [u]|_=>.none
theorem JA{C:List V->Prop}(c1:∀t,C [t])(c2:∀t u,C [t,u])(c3:∀t u v,C [t,u,v]):∀ {Ts:List V},Ts.length=1\/Ts.length=2\/Ts.length=3->C Ts
 |[],h=>h.elim nofun λh=>h.elim nofun nofun|[t],_=>c1 t|[t,u],_=>c2 t u|[t,u,v],_=>c3 t u v|_::_::_::_::_,h=>h.elim nofun λh=>h.elim nofun nofun
theorem ET{r:Nat}(h:0<r): - -(r:Int)-1=((r-1:Nat):Int):=by omega
section
variable{M:Ma}{lo:Lo}{s:Mp.St}{S:List Nat}{T:List V}{p gu:Nat}{q:R (Flow×Lo)}
theorem Az(h:gJ M lo s (S++[gu]) T p)(ht:gu<8)(hp:p<=M.w.length)(ha:M.A gu (kJ (M.w.drop p))=.none):block (dM P gK) M.c lo s=.ok (.ret (.av [.none,.int p]),a9 lo 55 .none) s:=
 au (bZ (za h ht hp ha)) (cV (jz (dI (ai lk) bj rfl) (cV (fm (fS (cx bj (ai (lm h.qC rfl))))))))
theorem pJ{v:Int}(h:gJ M lo s (S++[gu]) T p)(ht:gu<8)(hp:p<=M.w.length)(ha:M.A gu (kJ (M.w.drop p))=.int v)(h2:block (dM P Mw) M.c (a9 lo 55 (.int v)) s=q):block (dM P gK) M.c lo s=q:=
 au (bZ (za h ht hp ha)) (au (bY (dI (ai lk) bj rfl) bg) h2)
theorem CU{t:V}(h:gJ M lo s (S++[gu]) (T++[t]) p)(ht:gu<8)(hp:p<=M.w.length)(ha:M.A gu (kJ (M.w.drop p))=.int 0):block (dM P gK) M.c lo s=.ok (.ret (.av [t,.int p]),a9 lo 55 (.int 0)) s:=by refine mZ h.l λls lt k=>?_;exact pJ h ht hp ha (cV (jz (dI (ai lk) aK rfl) (cV (fm (fS (cx (bw (ai (lm k.k2 rfl)) (hG aK) (ju k.k9 rfl)) (ai (lm h.qC rfl))))))))
theorem xP{j x:Nat}(h:gJ M lo s (S++[gu]) T p)(ht:gu<8)(hp:M.w[p]?=some x)(ha:M.A gu (kJ (M.w.drop p))=.int ((j+1:Nat):Int))(hS:(S++[gu]).length<1000)(hT:T.length<1000):
  ∃lo' s',block (dM P gK) M.c lo s=.ok (.next,lo') s'/\gJ M lo' s' (S++[gu]++[j+1]) (T++[.str [x]]) (p+1):=by
 refine mZ h.l λls lt k=>?_;exact⟨a9 (a9 lo 55 (.int ((j+1:Nat):Int))) 49 (.int ((p+1:Nat):Int)),(s.bU ls (.list (IV (S++[gu]++[j+1])))).bU lt (.list (T++[.str [x]])),
  pJ h ht (Qg (PX.mp hp).1) ha (au (bY (dI (ai lk) aK rfl) bg)
   (au (jz (dI (ai lk) aK rfl) (au (pA (lJ (ai (lm k.k1 rfl)) k.k8 (ew (ai lk)) k.k8 (yT (pG▸hS) tQ)))
    (au (pA (lJ (ai (lm k.k2 rfl)) (iI k.k5.symm k.k9) (ew (bw (ai (lm h.qB rfl)) (ai (lm h.qC rfl)) (xK hp Mv))) (iI k.k5.symm k.k9) (yT hT rfl)))
     (au (FQ (lm h.qC rfl) aK rfl) bg)))) bg)),
  lm (lm h.tT rfl) rfl,lm (lm h.FT rfl) rfl,lm (lm h.qB rfl) rfl,lk,⟨ls,lt,lm (lm k.k1 rfl) rfl,lm (lm k.k2 rfl) rfl,k.k3,k.k4,k.k5,k.k6,k.k7,iI k.k5 gp,gp⟩,
  h.kp.1,λi hi=>iI (Qw (PZ hi k.k4)) (iI (Qw (PZ hi k.k3)) (h.at hi rfl))⟩
structure TF (Ts:List V):Prop where
 l0:0<Ts.length
 l3:Ts.length<900
 hd:Ts[0]?=some (Ts.headD .none)
 sl:aW Ts (.int 1) (.int 2) .none=some ((Ts.take 2).drop 1)
 s3:((Ts.take 2).drop 1).length<1000
 tr:aE [(.int 1,Ts.headD .none),(.int 2,.av Ts),(.int 3,.av ((Ts.take 2).drop 1))] (.int (Ts.length:Int))=some (pI Ts)
theorem tf{Ts:List V}(h:Ts.length=1\/Ts.length=2\/Ts.length=3):TF Ts:=
 have l:∀ {n m:Nat},Nat.ble n m=true->n<=m:=P4
 JA (λzz=>⟨l rfl,l rfl,rfl,rfl,l rfl,rfl⟩) (λzz zz=>⟨l rfl,l rfl,rfl,rfl,l rfl,rfl⟩) (λzz zz zz=>⟨l rfl,l rfl,rfl,rfl,l rfl,rfl⟩) h
theorem Ky{c:Ctx}{ln:Nat}{Ts:List V}(e2:ao lo 57=some (.int (Ts.length:Int)))(e3:ao lo 58=some (.ar ln))(g:s.get ln=some (.list Ts))(f:TF Ts):
  ∃s',dS P (nS Mx 2) c lo s=.ok (.next,a9 lo 47 (pI Ts)) s'/\Kp s s':=
 have l:=QD f.l3 (by decide)
 (ag _ (bZ (bw (tR (ji aK (bw (ai e3) aK (iC g (kI (j:=0) f.hd l))) (ji aK (vF (ai e3) (CG g l)) (ji aK (vF (eS (ai e3) aK aK bj (FN g l f.sl)) (CG gn f.s3)) y6))) rfl) (ai e2) (dN gn rfl f.tr))) ((Kp.new _ _).nw _))
theorem pK{r:Nat}{str S1 Ss:List Nat}{q g:Nat}{T0 Ts:List V}(h:gJ M lo s (S1++[q]++Ss++[gu]) (T0++Ts) p)(ht:gu<8)(hp:p<=M.w.length)
  (ha:M.A gu (kJ (M.w.drop p))=.int (-(r:Int))) (hr:0<r) (hb:M.bs[r-1]?=some (.str str)) (f:TF Ts) (hs:str.length=Ts.length) (hss:Ss.length+1=Ts.length) (hq:q<8) (hg:M.G q=.int g) (hS:(S1++[q]++Ss++[gu]).length<900) (hT:(T0++Ts).length<900):
  ∃lo' s',block (dM P gK) M.c lo s=.ok (.next,lo') s'/\gJ M lo' s' (S1++[q]++[g]) (T0++[pI Ts]) p:=by
 refine mZ h.l λls lt k=>?_;refine aO M.tb.oE λfs t1 t2 t3=>?_;refine fZ (M.tb.Kw hq hg) λqy rr row c1 c3 c4 c5 c6=>?_;have k8:s.get ls=some (.list (IV (S1++[q])++IV (Ss++[gu]))):=by rw[<-lN,<-Qx];exact k.k8
 rw[Qx,<-pG,lN] at hS;have hT':=QD hT (by decide:900<1000);have hS':=QD hS (by decide:900<1000);refine aa (Ky (c:=M.c) (s:=s.new (.list Ts)) (lo:=a9 (a9 (a9 lo 55 (.int (-(r:Int)))) 57 (.int (Ts.length:Int))) 58 (.ar s.n)) (lm lk rfl) lk gn f) λs2 x3 k2=>?_;have k2:=(Kp.new s _).trans k2;have k4:=(k2.nw (.list T0)).nw (.list [pI Ts]);have k5:=k4.nw (.list (T0++[pI Ts]));have at6:∀ {i q},i<M.s0.n->M.s0.get i=q->_:=λhi e=>(k5.nw (.list (IV (S1++[q])))).get (PZ hi h.kp.1) (h.at hi e);have n5:=PN h.kp.1 k5.1;refine⟨_,_,pJ h ht hp ha (au (bY (dI (ai lk) aK (congrArg some (rQ (by omega)))) bg) (au (bY (dI (ai lk) aK (congrArg some (y5 (by omega))))
  (au (bZ (vF (bw (ai (lm h.FT rfl)) (e9 (hG (ai lk)) aK rfl) (iC (h.at M.tb.hB M.tb.Mt) (Kn (ET hr) (kI hb M.mc.bl)))) (xM hs (QD f.l3 (by decide)))))
  (au (bZ (eS (ai (lm (lm k.k2 rfl) rfl)) (hG (ai lk)) bj bj (FN k.k9 hT' (EL f.l0))))
  (au x3
  (au (bZ (e9 (eS (ai (lm (lm (lm (lm k.k2 rfl) rfl) rfl) rfl)) bj (hG (ai (lm (lm lk rfl) rfl))) bj (FN (k2.get k.k7 k.k9) hT' (tP f.l0 rfl))) (gH (ew (ai lk))) (sx (t6 (P1 _) gn) gn (by rw[PH] at hT;exact Dk hT f.l0))))
  (au (bZ (eS (ai (lm (lm (lm (lm (lm k.k1 rfl) rfl) rfl) rfl) rfl)) bj (hG (ai (lm (lm (lm lk rfl) rfl) rfl))) bj (FN (k5.get k.k6 k8) hS' (tP f.l0 (pG.trans ((PH ..).trans hss))))))
  (au (pA (lJ (ai lk) gn (ew (bw (bw (jZ (ai (lm (lm (lm (lm (lm (lm h.tT rfl) rfl) rfl) rfl) rfl) rfl)) (at6 M.tb.hd t1) t3) (bw (ai lk) (hG aK) (ju gn lN)) (dN (at6 M.tb.Kv c1) rfl c3)) aU (dN (at6 c4 c5) rfl c6))) gn (yT (by rw[PH] at hS';exact fk hS') tQ))) bg))))))) bg)),
  lm (lm (lm (lm (lm (lm h.tT rfl) rfl) rfl) rfl) rfl) rfl,lm (lm (lm (lm (lm (lm h.FT rfl) rfl) rfl) rfl) rfl) rfl,lm (lm (lm (lm (lm (lm h.qB rfl) rfl) rfl) rfl) rfl) rfl,lm (lm (lm (lm (lm (lm h.qC rfl) rfl) rfl) rfl) rfl) rfl,
  ⟨_,_,lk,lm lk rfl,n5,PN h.kp.1 k4.1,Nat.succ_ne_self _,P1 _,Qy (P1 _),gp,iI (Qw (P1 _)) (t6 (P1 _) gn)⟩,
  PN n5 (R5 _),λi hi=>iI (Qw (PZ hi n5)) (at6 hi rfl)⟩
end
end
set_option genInjectivity false
section
noncomputable abbrev lQ:List Nat:=[114,101,100,117,99,101]
noncomputable def fw:List V->V
 |[]=>.none|[t]=>t|t::u::ts=>.av [t,fw (u::ts)]
theorem mE(t u:V):∀xs:List V,fw (xs++[t,u])=fw (xs++[.av [t,u]])
 |[]=>rfl|[x]=>rfl|x::y::xs=>congrArg (λv=>V.av [x,v]) (mE t u (y::xs))
noncomputable def Ds (vd:Nat->List Nat) (ts:List V) (n:Nat) (x:Nat×V):List V:=(if 2<=n/\vd x.1=lQ then [fw ts] else ts)++[x.2]
noncomputable def vJ (vd:Nat->List Nat):List (Nat×V)->List V
 |[]=>[]|x::xs=>Ds vd (vJ vd xs) xs.length x
noncomputable def iL (vd:Nat->List Nat) (items:List (Nat×V)):List V:=vJ vd items.reverse
section
variable{vd:Nat->List Nat}{items:List (Nat×V)}{x:Nat×V}
theorem kK:iL vd (items++[x])=Ds vd (iL vd items) items.length x:=by unfold iL;rw[List.reverse_append];exact congrArg (Ds vd _ · x) (Rh ..)
theorem zb{ts:List V}{n:Nat}(h:2<=n/\vd x.1=lQ):Ds vd ts n x=[fw ts,x.2]:=by unfold Ds;rw[if_pos h];rfl
theorem zc{ts:List V}{n:Nat}(h:¬(2<=n/\vd x.1=lQ)):Ds vd ts n x=ts++[x.2]:=by unfold Ds;rw[if_neg h]
theorem kL:∀(r:List (Nat×V)),(r≠[]->0<(vJ vd r).length)/\(2<=r.length->2<=(vJ vd r).length)/\(vJ vd r).length<=r.length
 |[]=>j2 (λh=>absurd rfl h) nofun (P5 _)|x::xs=>by
  have⟨h1,h2,h3⟩:=kL xs;refine(?_:(_->0<(Ds vd (vJ vd xs) xs.length x).length)/\(_->2<=(Ds vd (vJ vd xs) xs.length x).length)/\(Ds vd (vJ vd xs) xs.length x).length<=_);by_cases c:2<=xs.length/\vd x.1=lQ
  .rw[zb c];exact j2 (λzz=>RK _) (λzz=>P5 _) (RI c.1)
  .rw[zc c,PH];exact j2 (λzz=>RK _) (λh=>QQ (h1 λe=>by rw[e] at h;exact absurd h (Nat.not_succ_le_self 1))) (QQ h3)
theorem tV(h:items≠[]):0<(iL vd items).length:=(kL _).1 λe=>h (List.reverse_eq_nil_iff.mp e)
theorem tW(h:2<=items.length):2<=(iL vd items).length:=(kL _).2.1 ((Rh ..).symm▸h)
theorem xQ:(iL vd items).length<=items.length:=PN (kL _).2.2 (Qa (Rh ..))
end
inductive Rs where
 |pV (suf:List Nat)|ok (t:V) (suf:List Nat)
noncomputable def qD (c:Nat):Prop:=c=97\/c=98\/c=111
noncomputable instance {c:Nat}:Decidable (qD c):=inferInstanceAs (Decidable (_\/_))
noncomputable def pL (vd:Nat->List Nat) (suf:List Nat) (items:List (Nat×V)) (shut:List Nat):Rs:=if items=[]\/suf.take 1≠shut then .pV suf else .ok (fw (iL vd items)) suf
noncomputable def rd (vd:Nat->List Nat):Nat->List Nat->List (Nat×V)->List Nat->Rs
 |0,suf,_,_=>.pV suf|f+1,suf,items,shut=>match suf with
  |c::suf'=>
   if qD c then
    (if 1<items.length/\vd c=[] then .pV suf
    else if c=111 then match rd vd f suf' [] [99] with
     |.pV q=>.pV q|.ok t q=>rd vd f (q.drop 1) (items++[(c,.av [t])]) shut
    else rd vd f suf' (items++[(c,.str [c])]) shut)
   else pL vd suf items shut
  |[]=>pL vd suf items shut
noncomputable def Kz:SC:=block (dM P gK)
noncomputable def FL (M:Ma) (n i stop:Nat) (lo:Lo) (s:Mp.St):R (Flow×Lo):=Mp.s.iT (t.vr 54) Kz (block []) M.c n (.range i stop) lo s
section
variable{M:Ma}{lo:Lo}{s:Mp.St}{S:List Nat}{T:List V}{p k:Nat}{v:V}
theorem gJ.FU(h:gJ M lo s S T p)(v:V):gJ M (a9 lo 54 v) s S T p:=
 let⟨ls,lt,k⟩:=h.l
 ⟨lm h.tT rfl,lm h.FT rfl,lm h.qB rfl,lm h.qC rfl,(gb ls lt ({k with k1:=lm k.k1 rfl,k2:=lm k.k2 rfl})),h.kp⟩
noncomputable def Go (M:Ma) (k:Nat) (S:List Nat) (T:List V) (p:Nat) (S':List Nat) (T':List V) (p':Nat):Prop:=
 ∀lo s (n i stop:Nat),gJ M lo s S T p->i+k<=stop->∃lo' s',gJ M lo' s' S' T' p'/\FL M (n+k) i stop lo s=FL M n (i+k) stop lo' s'
noncomputable def vK (M:Ma) (S:List Nat) (T:List V) (p:Nat) (v:V):Prop:=
 ∀lo s (n i stop:Nat),gJ M lo s S T p->i<stop->Ay (FL M (n+1) i stop lo s) v M.s0
theorem Go.zero:Go M 0 S T p S T p:=λlo s n i stop h zz=>bW lo s h rfl
theorem Go.trans{k':Nat}{S' S'':List Nat}{T' T'':List V}{p' p'':Nat}(h1:Go M k S T p S' T' p')(h2:Go M k' S' T' p' S'' T'' p''):Go M (k+k') S T p S'' T'' p'':=λlo s n i stop h hi=>by have⟨lo1,s1,q1,e1⟩:=h1 lo s (n+k') i stop h (fk hi);have⟨lo2,s2,q2,e2⟩:=h2 lo1 s1 n (i+k) stop q1 (fk hi);exact bW lo2 s2 q2 (by rw[Nat.add_comm k,<-Nat.add_assoc,e1,e2,Nat.add_assoc,Nat.add_comm k])
theorem Go.fU{S':List Nat}{T':List V}{p':Nat}(h:∀lo s,gJ M lo s S T p->∃lo' s',block (dM P gK) M.c lo s=.ok (.next,lo') s'/\gJ M lo' s' S' T' p'):Go M 1 S T p S' T' p':=λlo s n i stop r hi=>
 let⟨lo',s',e,q⟩:=h _ s (r.FU (.int i))
 ⟨lo',s',q,lP (nz hi) rfl e rfl⟩
theorem vK.of(h:∀lo s,gJ M lo s S T p->∃lo',block (dM P gK) M.c lo s=.ok (.ret v,lo') s):vK M S T p v:=λlo s n i stop r hi=>
 let⟨lo',e⟩:=h _ s (r.FU (.int i))
 ⟨lo',s,Ko (nz hi) rfl e,r.kp⟩
end
end
set_option genInjectivity false
section
structure HL (M:Ma) (x nx:Nat):Prop where
 n0:0<nx
 n8:nx<8
 sh:∀st∈[0,1,M.nO,6],M.A st [x]=.int nx
 cf:Cf M.A M.vd M.rE x nx
structure Gp (M:Ma) where
 S0:List Nat
 q:Nat
 gq:Nat
 T0:List V
 shut:List Nat
 b:(q=0/\gq=1/\shut=[])\/(q=M.nO/\gq=6/\shut=[99])
 e:S0.length=T0.length
section
variable{M:Ma}{p n x nx:Nat}{T ts:List V}{t u:V}{suf:List Nat}
theorem KA:HL M 97 M.nA:=⟨M.mc.hA.1,M.mc.hA.2,λst h=>congrArg Prod.fst (M.mc.sh st h),M.mc.cA⟩
theorem KC:HL M 98 M.nB:=⟨M.mc.hB.1,M.mc.hB.2,λst h=>congrArg (·.2.1) (M.mc.sh st h),M.mc.cB⟩
theorem KD:HL M 111 M.nO:=⟨M.mc.hO.1,M.mc.hO.2,λst h=>congrArg (·.2.2) (M.mc.sh st h),M.mc.cO⟩
noncomputable def tq (g:Gp M):Nat->Nat|0=>g.q|1=>g.gq|_=>5
noncomputable def below (g:Gp M):Nat->List Nat|0=>g.S0|n+1=>below g n++[tq g n]
noncomputable def stack (g:Gp M) (n:Nat):List Nat:=below g n++[tq g n]
variable{g:Gp M}
theorem eM:∀n,(below g n).length=g.T0.length+n
 |0=>g.e|n+1=>(PH ..).trans (congrArg Nat.succ (eM n))
theorem Gp.f(g:Gp M):(g.q<8/\g.gq<8)/\(M.G g.q=.int g.gq/\M.G g.gq=.int (5:Nat))/\g.q∈[0,1,M.nO,6]/\g.gq∈[0,1,M.nO,6]:=by
 refine Ll M.mc.g λg0 g1 g2 g3 g4=>?_;rcases g.b with⟨h1,h2,_⟩|⟨h1,h2,_⟩<;>rw[h1,h2]
 .exact Ia ⟨by decide,by decide⟩ ⟨g0,g1⟩ (.head _) (.tail _ (.head _))
 .exact Ia ⟨M.mc.hO.2,by decide⟩ ⟨g2,g4⟩ (.tail _ (.tail _ (.head _))) (.tail _ (.tail _ (.tail _ (.head _))))
theorem pM:∀n,tq g n<8
 |0=>g.f.1.1|1=>g.f.1.2|_+2=>P4 rfl
theorem CV:∀n,M.G (tq g n)=.int (tq g (n+1):Nat)
 |0=>g.f.2.1.1|1=>g.f.2.1.2|_+2=>M.mc.g.2.2.2.1
theorem FV(l:HL M x nx):∀n,n<2->M.A (tq g n) [x]=.int nx
 |0,_=>l.sh _ g.f.2.2.1|1,_=>l.sh _ g.f.2.2.2|n+2,h=>absurd h (Q4 (Q1 ..))
theorem CW{n:Nat}(h:2<=n):tq g n=5:=by refine PW (Qp h) λm z1=>?_;clear h;obtain rfl:=z1;rfl
theorem T9{k n:Nat}(hp:k<=M.w.length)(h:n<=k+3):n<900:=OV hp M.hw h
theorem Go.cast{k k':Nat}{S S':List Nat}{T T':List V}{p':Nat}(e:k=k')(h:Go M k S T p S' T' p'):Go M k' S T p S' T' p':=e▸h
theorem HM(hp:p<=M.w.length)(hT:g.T0.length+(n+2)<=p)(hl:T.length=g.T0.length+n)(hk:M.A 5 (kJ (M.w.drop p))=.int (-(M.rE:Int))):
  Go M 1 (stack g (n+2)) (T++[t,u]) p (stack g (n+1)) (T++[.av [t,u]]) p:=Go.fU λlo s h=>
 pK (S1:=below g n) (Ss:=[tq g (n+1)]) (Ts:=[t,u]) h (P4 rfl) hp hk M.mc.r.1 M.mc.bE (tf (.inr (.inl rfl))) rfl rfl (pM n) (CV n)
  (T9 hp (by rw[PH,PH,PH,eM];exact fk hT)) (T9 hp (by rw[PH,hl];exact fk hT))
theorem KG(h:ts.length=n+2):∃xs t u,ts=xs++[t,u]/\xs.length=n:=by
 have e:(ts.drop n).length=2:=by rw[Ra,h,QU]
 have f:=List.take_append_drop n ts;revert e f;generalize ts.drop n=l;intro e f
 match l,e with
 |[t,u],_=>exact lU _ t u f.symm ((RS ..).trans (h▸Rx (Qz ..)))
theorem pN(hp:p<=M.w.length)(hk:M.A 5 (kJ (M.w.drop p))=.int (-(M.rE:Int))):
  ∀(n:Nat) (ts:List V),ts.length=n+1->g.T0.length+(n+1)<=p->Go M n (stack g (n+1)) (g.T0++ts) p (stack g 1) (g.T0++[fw ts]) p
 |0,[t],_,_=>Go.zero|n+1,ts,hl,hT=>by refine fY (KG hl) λxs t u z3 hx=>?_;refine z3▸?_;have m:=pN hp hk n (xs++[V.av [t,u]]) ((PH ..).trans (by rw[hx];rfl)) (Ri hT);rw[<-mE,<-Qx] at m;rw[<-Qx];exact Go.cast (Nat.add_comm 1 n) ((HM hp hT ((PH ..).trans (by rw[hx])) hk).trans m)
theorem jv{w:List Nat}(hd:w.drop p=x::suf):w[p]?=some x:=(RX (xs:=w) (i:=p) (j:=0)).symm.trans (hd▸rfl)
theorem fG{w:List Nat}(hd:w.drop p=x::suf):w.drop (p+1)=suf/\p<w.length:=⟨(List.drop_drop (i:=1)).symm.trans (hd▸rfl),(PX.mp (jv hd)).1⟩
theorem CX{S:List Nat}{gu:Nat}(hd:M.w.drop p=x::suf)(ht:gu<8)(hn:0<nx)(ha:M.A gu [x]=.int nx)(hS:(S++[gu]).length<900)(hT:T.length<900):
  Go M 1 (S++[gu]) T p (S++[gu]++[nx]) (T++[.str [x]]) (p+1):=Go.fU λlo s h=>by
 obtain⟨j,rfl⟩:=Qp hn;exact xP h ht (jv hd) (by rw[hd];exact ha) (QD hS (by decide)) (QD hT (by decide))
theorem push{items:List (Nat×V)}(l:HL M x nx)(hd:M.w.drop p=x::suf)(hT:g.T0.length+items.length<=p)(hv:¬(1<items.length/\M.vd x=[])):
  ∃ts1 k,(∀t,iL M.vd (items++[(x,t)])=ts1++[t])/\ts1.length<=items.length/\Go M k (stack g (iL M.vd items).length) (g.T0++iL M.vd items) p (stack g ts1.length++[nx]) (g.T0++ts1++[.str [x]]) (p+1)/\k+ts1.length=(iL M.vd items).length+1:=by
 have hp:=Qg (fG hd).2;have z3:=xQ (vd:=M.vd) (items:=items);have sh:∀ {ts1},ts1.length<=items.length->M.A (tq g ts1.length) [x]=.int nx->Go M 1 (stack g ts1.length) (g.T0++ts1) p (stack g ts1.length++[nx]) (g.T0++ts1++[.str [x]]) (p+1):=λh1 ha=>
  CX hd (pM _) l.n0 ha (T9 hp (by rw[PH,eM];exact Dk hT h1)) (T9 hp (by rw[PH];exact Dk hT h1))
 by_cases hr:2<=items.length/\M.vd x=lQ
 .refine PW (Qp (Ri (tW (vd:=M.vd) hr.1))) λm hm=>?_;have m1:=pN (g:=g) hp (by rw[hd];exact l.cf.r hr.2) m (iL M.vd items) hm (hm▸PN (RQ z3 _) hT);exact cZ ([fw (iL M.vd items)]) (m+1) (λt=>kK.trans (zb hr)) (Ri hr.1) ((hm▸m1).trans (sh (ts1:=[fw (iL M.vd items)]) (Ri hr.1) (FV l 1 (P1 _)))) (congrArg Nat.succ hm.symm)
 .refine cZ (iL M.vd items) (1) (λt=>kK.trans (zc hr)) z3 (sh z3 ?_) (Nat.add_comm ..);refine QK (Nat.lt_or_ge (iL M.vd items).length 2) (λh2=>?_) λh2=>?_
  .exact FV l _ h2
  .have h2':=PN h2 z3;rw[CW h2];exact l.cf.o.elim (λh=>absurd ⟨h2',h⟩ hv) λh=>h.elim l.cf.s λh=>absurd ⟨h2',h⟩ hr
end
end
set_option genInjectivity false
section
section
variable{M:Ma}{g:Gp M}{p n k m m' x nx:Nat}{S S':List Nat}{T T' ts:List V}{t v:V}{suf:List Nat}{items:List (Nat×V)}{r:Rs}
theorem Go.dY{p':Nat}(h1:Go M k S T p S' T' p')(h2:vK M S' T' p' v)(lo:Lo)(s:Mp.St)(n stop:Nat)(h:gJ M lo s S T p)(hk:k<stop):Ay (FL M (n+1+k) 0 stop lo s) v M.s0:=by refine a8 (h1 lo s (n+1) 0 stop h (fk hk)) λlo1 s1 r1 e1=>?_;refine a8 (h2 lo1 s1 n (0+k) stop r1 (fk hk)) λlo2 s2 e2 e3=>?_;exact bW lo2 s2 (e1.trans e2) e3
theorem pO{gu:Nat}(hp:p<=M.w.length)(ht:gu<8)(ha:M.A gu (kJ (M.w.drop p))=.none):vK M (S++[gu]) T p (.av [.none,.int p]):=
 vK.of λlo s h=>⟨_,Az h ht hp ha⟩
noncomputable def vM (g:Gp M) (S:List Nat) (T:List V) (p m:Nat):Rs->Prop
 |.pV suf=>∃k S' T' p',Go M k S T p S' T' p'/\vK M S' T' p' (.av [.none,.int p'])/\k<=m/\M.w.drop p'=suf/\p'<=M.w.length|.ok t suf=>∃k p',Go M k S T p (stack g 1) (g.T0++[t]) p'/\k+3*suf.length+1<=m/\M.w.drop p'=suf/\p'<=M.w.length/\suf.take 1=g.shut/\g.T0.length+1<=p'/\p<=p'
theorem vM.pre{p':Nat}(h0:Go M k S T p S' T' p')(h:vM g S' T' p' m r)(hm:k+m<=m')(hpp:p<=p'):vM g S T p m' r:=by
 induction r with
 |pV suf'=>obtain⟨k',S2,T2,p2,h1,h2,h3,h4⟩:=h;exact⟨_,S2,T2,p2,h0.trans h1,h2,Dk h3 hm,h4⟩
 |ok t suf'=>obtain⟨k',p2,h1,h2,h3,h4,h5,h6,h7⟩:=h;exact⟨_,p2,h0.trans h1,Dk h2 hm,h3,h4,h5,h6,PN hpp h7⟩
theorem Gp.h(g:Gp M):g.q∈[0,M.nO]/\∀suf,(suf=[]\/∃r,suf=99::r)->suf.take 1≠g.shut->M.A g.gq (kJ suf)=.none:=by
 rcases g.b with⟨h1,h2,h3⟩|⟨h1,h2,h3⟩<;>rw[h1,h2,h3]
 .exact⟨.head _,λsuf h ne=>h.elim (λe=>absurd (congrArg (List.take 1) e) ne) λhq0=>PW hq0 λr e=>e▸M.mc.e1.1⟩
 .exact⟨.tail _ (.head _),λsuf h ne=>h.elim (λe=>e▸M.mc.e6.2) λhq0=>PW hq0 λr e=>absurd (congrArg (List.take 1) e) ne⟩
theorem CY(hs:suf=[]\/∃r,suf=99::r)(hd:M.w.drop p=suf)(hp:p<=M.w.length)(hT:g.T0.length+items.length<=p):
  vM g (stack g (iL M.vd items).length) (g.T0++iL M.vd items) p (3*suf.length+(iL M.vd items).length) (pL M.vd suf items g.shut):=by
 have kk:∀ {a:Nat} {x},M.A a [99]=x/\M.A a [36,101,110,100]=x->M.A a (kJ (M.w.drop p))=x:=λh=>by rw[hd];exact hs.elim (λe=>e▸h.2) λhq0=>PW hq0 λr e=>e▸h.1
 unfold pL;by_cases hi:items=[]
 .rw[if_pos (.inl hi)];exact hi▸(yg (0) _ _ _ Go.zero (pO hp (pM 0) (kk (RW (M.mc.e0 _ g.h.1)))) (QX _) hd hp)
 .refine PW (Qp (tV (vd:=M.vd) hi)) λm hm=>?_;have z3:=xQ (vd:=M.vd) (items:=items);have g1:=pN (g:=g) hp (kk M.mc.re) m (iL M.vd items) hm (hm▸PN (RQ z3 _) hT);rw[hm];by_cases hn:suf.take 1=g.shut
  .rw[if_neg λh=>h.elim hi λh=>h hn];exact Fm m p g1 (by simp+arith) hd hp hn (PN (RQ (List.length_pos_iff.mpr hi) _) hT) (P5 _)
  .rw[if_pos (.inr hn)];exact yg m _ _ p g1 (pO hp (pM 1) (hd▸g.h.2 _ hs hn)) (by simp+arith) hd hp
theorem My(hp:p<=M.w.length)(hT:g.T0.length+ts.length+1<=p)(hx:(x=97/\nx=M.nA)\/(x=98/\nx=M.nB)):
  Go M 1 (stack g ts.length++[nx]) (g.T0++ts++[.str [x]]) p (stack g (ts.length+1)) (g.T0++(ts++[.str [x]])) p:=Go.fU λlo s h=>by
 have ra:=M.mc.ra _ (tU (M:=M) (p:=p));have key:∃(r:Nat) (str:List Nat),0<r/\M.A nx (kJ (M.w.drop p))=.int (-(r:Int))/\M.bs[r-1]?=some (.str str)/\str.length=1/\nx<8:=by
  rcases hx with⟨_,rfl⟩|⟨_,rfl⟩
  .exact jB _ _ M.mc.r.2.1 (congrArg Prod.fst ra) M.mc.bA rfl M.mc.hA.2
  .exact jB _ _ M.mc.r.2.2.1 (congrArg (·.2.1) ra) M.mc.bB rfl M.mc.hB.2
 refine jA key λr str r1 r2 r3 r4 r5=>?_;exact Qx g.T0 ..▸pK (S1:=below g ts.length) (Ss:=[]) (Ts:=[.str [x]]) (by rw[QI];exact h) r5 hp r2 r1 r3 (tf (.inl rfl)) r4 rfl (pM _) (CV _)
  (T9 hp (by rw[QI,PH,PH,eM];exact fk hT)) (T9 hp (by rw[PH,PH];exact fk hT))
theorem KH{α:Type}{l:List α}{a b c:α}:l++[a]++[b]++[c]=l++[a,b,c]:=(Qx ..).trans (Qx ..)
theorem Mz(hp:p<=M.w.length)(hT:g.T0.length+ts.length+3<=p):
  Go M 1 (stack g ts.length++[M.nO]++[6]++[7]) (g.T0++ts++[.str [111]]++[t]++[.str [99]]) p (stack g (ts.length+1)) (g.T0++(ts++[.av [t]])) p:=Go.fU λlo s h=>
 Qx g.T0 ..▸pK (S1:=below g ts.length) (Ss:=[M.nO,6]) (Ts:=[.str [111],t,.str [99]]) (by rw[KH,KH] at h;rw[Qx (_++_)];exact h) (P4 rfl) hp (congrArg (·.2.2) (M.mc.ra _ tU)) M.mc.r.2.2.2 M.mc.bO (tf (.inr (.inr rfl))) rfl rfl (pM _) (CV _)
  (T9 hp (by rw[PH,PH,PH,eM];exact fk hT)) (T9 hp (by rw[PH,PH];exact fk hT))
noncomputable def Ly (g:Gp M) (f:Nat) (suf:List Nat) (items:List (Nat×V)) (p:Nat) (r:Rs):Prop:=
 suf.length<f->M.w.drop p=suf->p<=M.w.length->g.T0.length+items.length<=p->vM g (stack g (iL M.vd items).length) (g.T0++iL M.vd items) p (3*suf.length+(iL M.vd items).length) r
noncomputable def MA (M:Ma) (f:Nat):Prop:=∀(g:Gp M) suf items p,Ly g f suf items p (rd M.vd f suf items g.shut)
theorem CZ(l:HL M x nx)(hv:1<items.length/\M.vd x=[]):Ly g k (x::suf) items p (.pV (x::suf)):=λzz hd hp zz=>
 yg (0) _ _ _ Go.zero (pO hp (pM _) (by rw[CW (tW hv.1),hd];exact l.cf.z hv.2)) (QX _) hd hp
theorem C0(ih:MA M k)(hx:(x=97/\nx=M.nA)\/(x=98/\nx=M.nB))(l:HL M x nx)(hv:¬(1<items.length/\M.vd x=[])):Ly g (k+1) (x::suf) items p (rd M.vd k suf (items++[(x,.str [x])]) g.shut):=λhf hd hp hT=>by refine dw (fG hd) λhd1 hp1=>?_;refine bK (push l hd hT hv) λts1 k1 p1 p2 p3 p4=>?_;have h2:=ih g suf (items++[(x,.str [x])]) (p+1) (Ry hf) hd1 hp1 (by rw[PH];exact QQ hT);rw[p1,PH] at h2;exact vM.pre (p3.trans (My hp1 (Dk hT p2) hx)) h2 (by rw[Q3];exact fk (Qa p4)) (R5 p)
noncomputable def Gp.az (g:Gp M) (ts:List V):Gp M:=⟨stack g ts.length,M.nO,6,g.T0++ts++[.str [111]],[99],.inr ⟨rfl,rfl,rfl⟩,by
 rw[PH,PH];exact(PH ..).trans (congrArg Nat.succ (eM _))⟩
theorem C1{α:Type}{x:α}:∀ {l:List α},l.take 1=[x]->∃m,l=x::m
 |[],h=>nomatch h|_::m,h=>⟨m,congrArg (· ::m) (Qr h).1⟩
theorem EU(ih:MA M k)(hv:¬(1<items.length/\M.vd 111=[])):Ly g (k+1) (111::suf) items p (match rd M.vd k suf [] [99] with
  |.pV q=>.pV q|.ok t q=>rd M.vd k (q.drop 1) (items++[(111,.av [t])]) g.shut):=λhf hd hp hT=>by
 obtain⟨hd1,hp1⟩:=fG hd;refine bK (push KD hd hT hv) λts1 k1 p1 p2 p3 p4=>?_;have h1:=ih (g.az ts1) suf [] (p+1) (Ry hf) hd1 hp1 (by refine(?_:(g.T0++ts1++[V.str [111]]).length+0<=_);rw[PH,PH];exact Dk hT p2);change vM (g.az ts1) _ (g.T0++ts1++[V.str [111]]++[]) _ _ (rd M.vd k suf [] [99]) at h1;rw[QI] at h1;cases hr:rd M.vd k suf [] [99] with
 |pV qq=>rw[hr] at h1;refine ye h1 λk2 S' T' p' g1 g2 g3 g4=>?_;exact IG _ S' T' p' (p3.trans g1) g2 (by rw[Q3];exact Dk (show k2<=3*suf.length from g3) (Qa p4)) g4
 |ok t qq=>
  rw[hr] at h1;refine Fi h1 λk2 p' g1 g2 g3 g4 g5 g6 g7=>?_;clear hr h1;obtain⟨q2,rfl⟩:=C1 g5;obtain⟨hd2,hp2⟩:=fG g3;have g2:k2+3*(q2.length+1)+1<=3*suf.length:=g2;have g6:g.T0.length+ts1.length+2<=p':=by rw[<-PH];exact PN (Qa (congrArg Nat.succ (PH (bs:=[V.str [111]])).symm)) g6
  have m2:=Mz (g:=g) (t:=t) hp2 (QQ g6);have m1:=CX (S:=stack g ts1.length++[M.nO]) (T:=g.T0++ts1++[.str [111]]++[t]) g3 (P4 rfl) (RK _) M.mc.e6.1
   (T9 g4 (by rw[PH,PH,stack,PH,eM];exact fk g6)) (T9 g4 (by rw[PH,PH,PH];exact fk g6))
  have h2:=ih g q2 (items++[(111,.av [t])]) (p'+1) (PY (Nat.le_of_mul_le_mul_left (fk g2:3*q2.length<=3*suf.length) (RK 2)) (Ry hf)) hd2 hp2 (by rw[PH];exact Dk hT g7);rw[p1,PH] at h2;exact vM.pre (p3.trans (g1.trans (m1.trans m2))) h2 (by rw[Q3];exact Dk g2 (Qa p4)) (fk g7)
theorem zd:∀f,MA M f
 |0,_,_,_,_=>λh=>absurd h (Nat.not_lt_zero _)|f+1,g,[],items,p=>λzz hd hp hT=>CY (.inl rfl) hd hp hT|f+1,g,x::suf,items,p=>λhf hd=>by
  have hx:=M.hL x (List.mem_of_mem_drop (hd▸PJ));unfold rd;dsimp only;by_cases hl:qD x
  .rw[if_pos hl];by_cases hv:1<items.length/\M.vd x=[]
   .rw[if_pos hv];rcases hl with rfl|rfl|rfl
    .exact CZ KA hv hf hd
    .exact CZ KC hv hf hd
    .exact CZ KD hv hf hd
   .rw[if_neg hv];rcases hl with rfl|rfl|rfl
    .exact C0 (zd f) (.inl ⟨rfl,rfl⟩) KA hv hf hd
    .exact C0 (zd f) (.inr ⟨rfl,rfl⟩) KC hv hf hd
    .exact EU (zd f) hv hf hd
  .rw[if_neg hl];exact CY (.inr ⟨suf,(hx.elim (λh=>absurd (.inl h) hl) λh=>h.elim (λh=>absurd (.inr (.inl h)) hl) λh=>h.elim (λh=>absurd (.inr (.inr h)) hl) λh=>h▸rfl)⟩) hd
end
end
set_option genInjectivity false
section
noncomputable def EV (x:Nat×V):V:=.av [.str [x.1],x.2]
noncomputable def C2 (vd:Nat->List Nat):List (Nat×V)->List Nat
 |[]=>[]|x::xs=>C2 vd xs++(if 2<=xs.length/\vd x.1=lQ then [xs.length] else [])
noncomputable def mW (vd:Nat->List Nat) (items:List (Nat×V)):List Nat:=C2 vd items.reverse
section
variable{vd:Nat->List Nat}{items:List (Nat×V)}{x:Nat×V}
theorem rR:∀ {l:List (Nat×V)},l.length<=2->C2 vd l=[]
 |[],_=>rfl|x::xs,h=>List.append_eq_nil_iff.mpr ⟨rR (Ri h),if_neg λe=>Q4 h (QQ e.1)⟩
theorem pP(h:items.length<=2):mW vd items=[]:=rR (PN (Qa (Rh ..)) h)
theorem vN:mW vd (items++[x])=mW vd items++if 2<=items.length/\vd x.1=lQ then [items.length] else []:=by unfold mW;rw[List.reverse_append,<-Rh];rfl
theorem ze:∀(l:List (Nat×V)),(C2 vd l).length<=l.length
 |[]=>P5 _|x::xs=>by refine(?_:(C2 vd xs++_).length<=_);rw[PH];exact Nat.add_le_add (ze xs) (by split<;>exact P4 rfl)
theorem zf:(mW vd items).length<=items.length:=PN (ze _) (Qa (Rh ..))
theorem vP{α:Type}{P:List α->Prop}(h0:P [])(h1:∀l x,P l->P (l++[x])):∀l,P l:=λl=>by rw[<-List.reverse_reverse l];exact @QA α (λr=>P r.reverse) h0 (λx xs ih=>List.reverse_cons.symm▸h1 _ x ih) l.reverse
theorem EW:∀items,(mW vd items=[]/\iL vd items=items.map (·.2))\/∃ys k,mW vd items=ys++[k]/\k<items.length/\0<k/\iL vd items=fw (iL vd (items.take k))::(items.drop k).map (·.2):=
 vP (.inl ⟨rfl,rfl⟩) λl x ih=>by
  rw[vN,kK,PH];by_cases c:2<=l.length/\vd x.1=lQ
  .rw[zb c,if_pos c];exact .inr (cZ _ _ rfl (P1 _) (Ri c.1) (by rw[List.take_left,List.drop_left];rfl))
  .rw[zc c,if_neg c,QI];rcases ih with⟨a,b⟩|⟨ys,k,a,b,p,d⟩
   .exact .inl ⟨a,by rw[b,QZ];rfl⟩
   .exact .inr (cZ ys k a (Qy b) p (by rw[d,List.take_append_of_le_length (Qg b),List.drop_append_of_le_length (Qg b),QZ];rfl))
theorem pQ:∀(ts:List V) (t:V),fw (ts++[t])=ts.foldr (λx r=>.av [x,r]) t
 |[],t=>rfl|[x],t=>rfl|x::y::ts,t=>congrArg (λv=>V.av [x,v]) (pQ (y::ts) t)
theorem AA{α:Type}{l:List α}{i:Nat}{x:α}(h:l[i]?=some x):l.take (i+1)=l.take i++[x]:=List.take_add_one.trans (h▸rfl)
end
noncomputable def Dt (vd:Nat->List Nat) (s:Mp.St) (vl:Nat):Prop:=vl<s.n/\∃ves,s.get vl=some (.dict ves)/\∀x,qD x->aE ves (.str [x])=some (.str (vd x))
structure xR (vd:Nat->List Nat) (lo:Lo) (s:Mp.St) (li vl:Nat) (items:List (Nat×V)):Prop where
 l6:ao lo 6=some (.ar li)
 vQ:ao lo 44=some (.ar vl)
 gi:s.get li=some (.list (items.map EV))
 gv:Dt vd s vl
 cE:∀x∈items,qD x.1
 hl:items.length<300
section
variable{vd:Nat->List Nat}{lo:Lo}{s s':Mp.St}{li vl:Nat}{items:List (Nat×V)}{c:Ctx}
theorem Dt.kp(h:Dt vd s vl)(k:Kp s s'):Dt vd s' vl:=⟨PZ h.1 k.1,h.2.imp λzz v=>⟨k.get h.1 v.1,v.2⟩⟩
theorem il{f:Nat×V->V}(h:items.length<300):(items.map f).length<1000:=QD (PY (Qa (P9 ..)) h) (by decide)
theorem rS{n:Nat}:∀(m i:Nat) (lo:Lo),xR vd lo s li vl items->2<=i->i+m=items.length->
  e.fb (dE P (.vr 10)) [10] (e.ifs (cW P [.cmp .eq (.az (.vr 44) (.az (.az (.vr 6) (.vr 10)) (.int 0))) (.str [114,101,100,117,99,101])])) c (n+(m+1)) (.range i items.length) (IV (mW vd (items.take i))) lo s=.ok (IV (mW vd items)) s
 |0=>λi lo h h2 he=>by subst he;exact(y8 (CL (Int.lt_irrefl _))).trans (by rw[List.take_length])
 |m+1=>λi lo h h2 he=>by
  obtain⟨hv,ves,g1,g2⟩:=h.gv;have hi:i<items.length:=fk (Qa he);have hx:=PK hi;have hm:=h.cE _ (List.getElem_mem hi);revert hx hm;generalize items[i]=x;intro hx hm;have ih:=rS (n:=n) m (i+1) (a9 lo 10 (.int i)) {h with l6:=lm h.l6 rfl,vQ:=lm h.vQ rfl} (RI h2) ((Nat.succ_add i m).trans he);have li':(items.take i).length=i:=(RS ..).trans (Rx (Qg hi));rw[AA hx,vN,li'] at ih;have ts:ea (dE P (.cmp .eq (.az (.vr 44) (.az (.az (.vr 6) (.vr 10)) (.int 0))) (.str [114,101,100,117,99,101]))) c (a9 lo 10 (.int i)) s=.ok _ s:=
   dI (bw (ai (lm h.vQ rfl)) (bw (bw (ai (lm h.l6 rfl)) (ai lk) (iC h.gi (kI ((Qt ..).trans (congrArg (Option.map EV) hx)) (il h.hl)))) aK rfl) (dN g1 rfl (g2 _ hm))) aU (congrArg some (y9 (vd x.1) lQ))
  by_cases hc:vd x.1=lQ
  .rw[decide_eq_true hc] at ts;rw[if_pos ⟨h2,hc⟩,<-tQ] at ih;exact CO (nz hi) rfl (vH ts) (ai lk) (QD (PY (PN (Qa pG) zf) (li'.symm▸QD hi h.hl)) (by decide)) ih
  .rw[decide_eq_false hc] at ts;rw[if_neg λe=>hc e.2,QI] at ih;exact HH (nz hi) rfl (vH ts) ih
theorem xS{n:Nat}(hl:items.length<300)(g:s.get li=some (.list (items.map EV)))(m i:Nat)(lo:Lo):i+m=items.length->
  e.fb (dE P (.vr 47)) [43,47] (e.ifs (cW P [])) c (n+(m+1)) (.list li i) ((items.take i).map (·.2)) lo s=.ok (items.map (·.2)) s:=
 CP g (QD hl (by decide)) (λzz zz=>ag _ rfl (ai lk)) m i lo
end
end
set_option genInjectivity false
section
theorem HN{n:Nat}{a b v:V}{lo:Lo}{s s':Mp.St}(h:block (dM P Ls) ⟨1000,run eR n⟩ [(6,a),(44,b)] s=.ok (.ret v,lo) s'):run eR (n+1) 12 [a,b] s=.ok v s':=by rw[<-FH] at h⊢;exact nx h rfl
section
variable{vd:Nat->List Nat}{lo:Lo}{s:Mp.St}{c:Ctx}
theorem zg{l n:Nat}{rs:List V}(g:s.get l=some (.list rs)):∀(m i:Nat) (lo:Lo) (v:V),i+m=rs.length->ao lo 48=some v->
  ∃lo',Mp.s.iT (t.vr 47) (block (dM P [.aq (.vr 48) (.av [.vr 47,.vr 48])])) (block []) c (n+(m+1)) (.list l i) lo s=.ok (.next,lo') s/\ao lo' 48=some ((rs.drop i).foldl (λr x=>.av [x,r]) v)
 |0=>λi lo v he h=>ag lo (FR (xN g (Qa he.symm)) rfl) ((List.drop_eq_nil_of_le (Qa he.symm)).symm▸h)|m+1=>λi lo v he h=>by have hi:i<rs.length:=fk (Qa he);refine aa (zg (n:=n) g m (i+1) (a9 (a9 lo 47 rs[i]) 48 (.av [rs[i],v])) (.av [rs[i],v]) ((Nat.succ_add i m).trans he) lk) λlo' h1 h2=>?_;rw[List.drop_eq_getElem_cons hi];exact ag lo' (lP (lO g (PK hi)) rfl (au (bZ (fS (cx (ai lk) (ai (lm h rfl))))) bg) h1) h2
theorem EX{li vl:Nat}{items:List (Nat×V)}(h:xR vd lo s li vl items):e.fb (dE P (.vr 10)) [10] (e.ifs (cW P [.cmp .eq (.az (.vr 44) (.az (.az (.vr 6) (.vr 10)) (.int 0))) (.str [114,101,100,117,99,101])])) c 1000 (.range 2 items.length) [] lo s=.ok (IV (mW vd items)) s:=by
 refine QK (Nat.lt_or_ge 2 items.length) (λh2=>?_) λh2=>?_
 .refine PW (Rt (Qg h2)) λm hm=>?_;refine PW (Qp ((PN (fk (Qa hm.symm)) (PN h.hl (by decide)):m+1<=1000))) λn hn=>?_;have x:=rS (c:=c) (n:=n) m 2 lo h (P5 _) hm.symm;rw[<-hn,pP (List.length_take_le ..)] at x;exact x
 .rw[pP h2];exact y8 (CL λe=>Q4 h2 (Ro.mp e))
theorem zh:∀(n:Nat) (items:List (Nat×V)) (li vl:Nat) (s:Mp.St),items≠[]->items.length<=n->items.length<300->(∀x∈items,qD x.1)->li<s.n->s.get li=some (.list (items.map EV))->Dt vd s vl->
  Cl (run eR (n+1) 12 [.ar li,.ar vl] s) (fw (iL vd items)) s
 |0=>λitems zz zz zz hp hn zz zz zz zz zz=>absurd (List.eq_nil_of_length_eq_zero (Nat.le_zero.mp hn)) hp|n+1=>λitems li vl s hp hn hl cE hli gi gv=>by
  have ni:xR vd [(6,.ar li),(44,.ar vl)] s li vl items:=⟨rfl,rfl,gi,gv,cE,hl⟩;have key:∀C,C=IV (mW vd items)->∃lo3 s3 lt,dS P (nS Ls 2) ⟨1000,run eR (n+1)⟩ (a9 (a9 [(6,.ar li),(44,.ar vl)] 45 (.ar s.n)) 46 (.ar (s.n+1))) ((s.new (.list C)).new (.list (items.map (·.2))))=.ok (.next,lo3) s3/\ao lo3 46=some (.ar lt)/\s3.get lt=some (.list (iL vd items))/\Kp s s3:=λC hC=>by
   have g1:((s.new (.list C)).new (.list (items.map (·.2)))).get s.n=_:=t6 (P1 _) gn;have k2:=(Kp.new s (.list C)).nw (.list (items.map (·.2)));have tr:=nv g1 (by rw[hC,pG];exact PY zf (QD hl (by decide)));rcases EW (vd:=vd) items with⟨h1,h2⟩|⟨ys,k,h1,hk,h0,h2⟩<;>rw[h1] at hC<;>rw[h2]
   .exact qL _ _ _ (bY (eK (ai rfl) (hC▸tr)) bg) rfl gn k2
   .have hC:=hC.trans (lN (T:=[k]));have hl':=il (f:=EV) hl;have hk':k<=(items.map EV).length:=(P9 ..).symm▸Qg hk;have k3:=k2.nw (.list ((items.map EV).take k));have lt1:(items.take k).length=k:=(RS ..).trans (Rx (Qg hk));clear h2 h1;obtain⟨s4,c4,k4⟩:=zh n (items.take k) (s.n+2) vl _ (λe=>by rw[e] at lt1;exact Qw h0 lt1) (lt1.symm▸Nat.le_of_lt_succ (PZ hk hn)) (lt1.symm▸QD hk hl) (λx hx=>cE x (List.mem_of_mem_take hx)) (P1 _) (gn.trans (by rw[List.map_take])) (gv.kp k3);have k5:=((Kp.new _ _).trans k4).nw (.list [fw (iL vd (items.take k))]);have k6:=(k3.trans k4).nw (.list [fw (iL vd (items.take k))]);exact⟨_,_,_,jz (eK (ai rfl) (tr.trans (by rw[hC];induction ys<;>rfl))) (au (bZ (e9
      (gH (ew (gI (cx (eS (ai rfl) bj (bw (ai rfl) (hG aK) (ju g1 hC)) bj (FN (k2.get hli gi) hl' (EM hk'))) (ai rfl)) c4)))
      (eS (ai rfl) (bw (ai rfl) (hG aK) (ju (k5.get (Qy (P1 _)) g1) hC)) bj bj (FN (k5.get (P1 _) gn) (il hl) (EN (by rw[P9];exact Qg hk))))
      (sx (t6 (P1 _) gn) gn (by rw[Ra,P9];exact fk hl)))) bg),rfl,by rw[List.map_drop];exact gn,(k6.nw _).nw _⟩
  refine eD (key _ rfl) λlo3 s3 lt x3 t46 tg tk=>?_;refine mZ ((List.eq_nil_or_concat (iL vd items)).resolve_left λe=>absurd (tV (vd:=vd) hp) (e▸RP 0)) λxs z q=>?_;rw[List.concat_eq_append] at q;have ls:=PN (Qa ((PH (bs:=[z])).symm.trans (congrArg _ q.symm))) (PN xQ (Qg hl));rw[q] at tg;obtain⟨j,hj⟩:=Qp ((PN (Qa (congrArg Nat.succ (Rh ..))) (PN ls (by decide)):xs.reverse.length+1<=1000));refine PW (Qp ((PN hl (by decide):items.length+1<=1000))) λi hi=>?_;refine aa (zg (c:=⟨1000,run eR (n+1)⟩) (n:=j) (gn (s:=s3.new (.list xs)) (o:=.list xs.reverse)) xs.reverse.length 0 (a9 lo3 48 z) z (Nat.zero_add _) lk) λlo5 f1 f2=>?_;rw[<-hj] at f1;rw[List.drop_zero,List.foldl_reverse,<-pQ,<-q] at f2;have y:=xS (c:=⟨1000,run eR (n+1)⟩) (n:=i) hl (t6 (o:=.list (IV (mW vd items))) hli gi) items.length 0 (a9 [(6,.ar li),(44,.ar vl)] 45 (.ar s.n)) (Nat.zero_add _);rw[<-hi] at y;have hx:xs.length<1000:=PZ ls (by decide);exact⟨_,HN (au (bZ (tO (CN aK (vF (ai rfl) ((y0 gi (il hl)).trans (by rw[P9]))) (congrArg (aP _) (fF (QD hl (by decide))))) (EX ni)))
   (au (bZ (tO (mh (ai rfl) (ny (t6 hli gi))) y)) (au x3 (au (bZ (bw (ai t46) (hG aK) (ju tg rfl)))
   (au (CJ (mh (eS (eS (ai (lm t46 rfl)) bj (hG aK) bj (FN tg (by rw[PH];exact PY ls (by decide)) (tP (k:=1) (RK 0) rfl))) bj bj (hG aK) (FN gn hx HE)) (ny gn)) (congrArg bb f1)) (cV (fm (ai f2)))))))),(tk.nw _).nw _⟩
end
end
set_option genInjectivity false
section
noncomputable def Pt (v:V) (n:Nat):Prop:=Lf v .none=some false/\∀d,n<=d->bV v d=true
section
variable{vd:Nat->List Nat}{items:List (Nat×V)}{x:Nat×V}{t u:V}{n m D:Nat}{suf shut:List Nat}
theorem Pt.sQ(h:Pt t n)(l:n<=m):Pt t m:=⟨h.1,λd hd=>h.2 d (PN l hd)⟩
theorem Pt.str{w:List Nat}:Pt (.str w) 0:=⟨rfl,λzz zz=>rfl⟩
theorem Pt.av{ts:List V}(h:∀d,n<=d->bS ts d=true):Pt (.av ts) (n+1):=⟨rfl,λd hd=>by refine PW (Qp (PN (Q1 1 n) hd)) λd z1=>?_;obtain rfl:=z1;exact h d (Nat.le_of_succ_le_succ hd)⟩
theorem Pt.fU(h:Pt t n):Pt (.av [t]) (n+1):=Pt.av λd hd=>(bL _ _ _).mpr ⟨h.2 d hd,rfl⟩
theorem Pt.wY(h:Pt t n)(k:Pt u n):Pt (.av [t,u]) (n+1):=Pt.av λd hd=>(bL _ _ _).mpr ⟨h.2 d hd,(bL _ _ _).mpr ⟨k.2 d hd,rfl⟩⟩
theorem Pt.HO:∀(ts:List V) (t:V),(∀v∈t::ts,Pt v n)->Pt (fw (t::ts)) (n+ts.length)
 |[],t,h=>h t (.head _)|u::ts,t,h=>Pt.wY ((h t (.head _)).sQ (Qz ..)) (Pt.HO ts u λv hv=>h v (.tail _ hv))
theorem jj{α:Type}{P:α->Prop}{l:List α}{x:α}(h:∀v∈l,P v)(hx:P x):∀v∈l++[x],P v:=λv hv=>
 (QO.mp hv).elim (h v) λe=>PI.mp e▸hx
theorem Pt.iL:∀items,(∀x∈items,Pt x.2 D)->∃e,D<=e/\e+(iL vd items).length=D+items.length/\∀v∈iL vd items,Pt v e:=
 vP (λzz=>bk D (P5 _) rfl nofun) λl x ih h=>by
  refine aO (ih λy hy=>h y (QW _ hy)) λe h1 h2 h3=>?_;have hx:=(h x (Rj _ (.head _))).sQ h1;rw[kK];by_cases c:2<=l.length/\vd x.1=lQ
  .rw[zb c,PH];have z:=tW (vd:=vd) c.1;revert h2 h3 z;cases L3.iL vd l with
   |nil=>exact λzz zz z=>absurd z (Nat.not_lt_zero 1)|cons t ts=>intro h2 h3 z;exact bk (e+ts.length) (PN h1 (Qz ..)) (congrArg Nat.succ h2) (λv hv=>(PU.mp hv).elim (λe=>e▸Pt.HO ts t h3) λhv=>PI.mp hv▸hx.sQ (Qz ..))
  .rw[zc c,PH,PH];exact bk e h1 (congrArg Nat.succ h2) (jj h3 hx)
theorem vR{C:Rs->Prop}{f x:Nat}(no:qD x->1<items.length/\vd x=[]->C (.pV (x::suf)))(op:x=111->¬(1<items.length/\vd x=[])->C (match rd vd f suf [] [99] with|.pV q=>.pV q|.ok t q=>rd vd f (q.drop 1) (items++[(x,.av [t])]) shut))
  (le:qD x->¬x=111->¬(1<items.length/\vd x=[])->C (rd vd f suf (items++[(x,.str [x])]) shut)) (en:¬qD x->C (pL vd (x::suf) items shut)):C (rd vd (f+1) (x::suf) items shut):=by
 unfold rd;dsimp only;by_cases hl:qD x
 .rw[if_pos hl];by_cases hv:1<items.length/\vd x=[]
  .rw[if_pos hv];exact no hl hv
  .rw[if_neg hv];by_cases ho:x=111
   .rw[if_pos ho];exact op ho hv
   .rw[if_neg ho];exact le hl ho hv
 .rw[if_neg hl];exact en hl
theorem AB{C:Rs->Prop}(h1:items=[]\/suf.take 1≠shut->C (.pV suf))(h2:items≠[]->suf.take 1=shut->C (.ok (fw (iL vd items)) suf)):C (pL vd suf items shut):=by
 unfold pL;by_cases h:items=[]\/suf.take 1≠shut
 .rw[if_pos h];exact h1 h
 .rw[if_neg h];exact h2 (λe=>h (.inl e)) (Decidable.byContradiction λe=>h (.inr e))
noncomputable def Ik (shut suf:List Nat) (n:Nat):Rs->Prop
 |.pV _=>True|.ok t q=>∃k j,Pt t k/\k+1+q.length<=n/\q=suf.drop j/\q.take 1=shut
theorem zi(h:∀x∈items,Pt x.2 D):Ik shut suf (suf.length+D+items.length) (pL vd suf items shut):=AB (λzz=>trivial) λh1 h2=>by
 refine aO (Pt.iL (vd:=vd) items h) λe zz h3 h4=>?_;have z:=tV (vd:=vd) h1;revert h3 h4 z;cases iL vd items with
 |nil=>exact λzz zz z=>absurd z (RP 0)|cons t ts=>exact λh3 h4 zz=>cZ _ (0) (Pt.HO ts t h4) (fk (Qa h3)) rfl h2
theorem Ik.to{y:List Nat}{j:Nat}{r:Rs}(h:Ik shut suf n r)(e:suf=y.drop j)(l:n<=m):Ik shut y m r:=by
 induction r with
 |pV _=>trivial|ok t q=>refine mZ h λk j' hz0=>?_;exact cZ k (j+j') hz0.1 (PN hz0.2.1 l) (hz0.2.2.1.trans (e▸List.drop_drop)) hz0.2.2.2
theorem KI:∀(f:Nat) (suf:List Nat) (items:List (Nat×V)) (shut:List Nat) (D:Nat),(∀x∈items,Pt x.2 D)->Ik shut suf (suf.length+D+items.length) (rd vd f suf items shut)
 |0,_,_,_,_=>λzz=>trivial|f+1,[],_,_,_=>zi|f+1,x::suf,items,shut,D=>λh=>vR (λzz zz=>trivial) (λzz zz=>by
   have h1:=KI f suf [] [99] 0 nofun;revert h1;cases rd vd f suf [] [99] with
   |pV q=>exact λzz=>trivial|ok t q=>intro h1;obtain⟨k,j,h1,h2,h3,h4⟩:=h1;obtain⟨q,rfl⟩:=C1 h4;exact(KI f q (items++[(x,.av [t])]) shut (D+(k+1)) (jj (λy hy=>(h y hy).sQ (Qz ..)) (h1.fU.sQ (Q1 ..)))).to (j:=j+2) ((congrArg (List.drop 1) h3).trans List.drop_drop) (by rw[PH,Q3];exact fk h2)) (λzz zz zz=>
   (KI f suf (items++[(x,.str [x])]) shut D (jj h (Pt.str.sQ (QX _)))).to (j:=1) rfl (by rw[PH,Q3];exact Qa (by simp+arith))) λzz=>zi h
end
end
set_option genInjectivity false
section
theorem HP{n:Nat}{a b d f v:V}{lo:Lo}{s s':Mp.St}(h:block (dM P Ij) ⟨1000,run eR n⟩ [(41,a),(49,b),(40,d),(44,f)] s=.ok (.ret v,lo) s'):run eR (n+1) 13 [a,b,d,f] s=.ok v s':=by rw[<-FH] at h⊢;exact nx h rfl
noncomputable def kM (w:List Nat):Rs->V
 |.pV q=>.av [.none,.int ((w.length-q.length:Nat):Int)]|.ok t q=>.av [t,.int ((w.length-q.length:Nat):Int)]
noncomputable def Il:List V:=[.str [97],.str [98],.str [111]]
theorem HQ{x:Nat}(h:qD x):contains (.str [x]) Il=some true:=by rcases h with rfl|rfl|rfl<;>rfl
noncomputable def wT:Mp.E:=ON (nS Ij 1)
noncomputable def wB:List Mp.S:=Lx (nS Ij 1)
noncomputable def wE:List Mp.S:=Ij.drop 2
structure Rm where
 s0:Mp.St
 w:List Nat
 vd:Nat->List Nat
 vl:Nat
 gv:Dt vd s0 vl
 hL:∀x∈w,qD x\/x=99
 hw:w.length<300
structure xT (Z:Rm) (shut:List Nat) (lo:Lo) (s:Mp.St) (items:List (Nat×V)) (p:Nat):Prop where
 qB:ao lo 41=some (.str Z.w)
 qC:ao lo 49=some (.int p)
 EY:ao lo 40=some (.str shut)
 vQ:ao lo 44=some (.ar Z.vl)
 l6:∃li,ao lo 6=some (.ar li)/\Z.s0.n<=li/\li<s.n/\s.get li=some (.list (items.map EV))
 kp:Kp Z.s0 s
 cE:∀x∈items,qD x.1
 hp:p<=Z.w.length
 hl:items.length<=p
section
variable{Z:Rm}{shut suf:List Nat}{lo lo1:Lo}{s s':Mp.St}{items:List (Nat×V)}{p p' x k m n:Nat}{c:Ctx}{v tr:V}{q:R (Flow×Lo)}
theorem xT.bq(h:xT Z shut lo s items p)(k:Kp s s'):xT Z shut lo s' items p:=by refine dQ h.l6 λli k1 k2 k3 k4=>?_;exact {h with l6:=iH li k1 k2 (PZ k3 k.1) (k.get k3 k4),kp:=h.kp.trans k}
theorem xT.up(h:xT Z shut lo s items p)(e:P8 41 k=false)(e1:P8 40 k=false)(e2:P8 44 k=false)(e3:P8 6 k=false)(e4:ao (a9 lo k v) 49=some (.int p'))(h1:p<=p')(h2:p'<=Z.w.length):xT Z shut (a9 lo k v) s items p':=by refine PW h.l6 λli hz0=>?_;exact⟨lm h.qB e,e4,lm h.EY e1,lm h.vQ e2,(ag li (lm hz0.1 e3) hz0.2),h.kp,h.cE,h2,PN h.hl h1⟩
theorem xT.hi(h:xT Z shut lo s items p):items.length<300:=PY h.hl (PY h.hp Z.hw)
theorem C3{b:Bool}(h:xT Z shut lo s items p)(e:contains (.str ((Z.w.drop p).take 1)) Il=some b):ea (dE P wT) c lo s=.ok b (s.new (.list Il)):=
 dI (CS h.qB h.qC h.hp (QD Z.hw (by decide))) (gH (dP aU (dP aU (ew aU)))) ((EP gn).trans e)
theorem KJ(h:xT Z shut lo s items p)(l43:ao lo 43=some (.str [x]))(l47:ao lo 47=some tr)(hx:qD x)(hp:p<Z.w.length):∃lo' s',block (dM P (wB.drop 4)) c lo s=.ok (.next,lo') s'/\xT Z shut lo' s' (items++[(x,tr)]) (p+1):=by
 refine dQ h.l6 λli k1 k2 k3 k4=>?_;exact⟨a9 lo 49 (.int ((p+1:Nat):Int)),s.bU li (.list ((items++[(x,tr)]).map EV)),au (pA (lJ (ai k1) k4 (ew (fS (cx (ai l43) (ai l47)))) k4 (yT (il h.hi) (QZ (l₂:=[(x,tr)])).symm))) (au (FQ h.qC aK rfl) bg),
  lm h.qB rfl,lk,lm h.EY rfl,lm h.vQ rfl,(iH li (lm k1 rfl) k2 k3 gp),⟨h.kp.1,λi hi=>iI (Qw (PZ hi k2)) (h.kp.get hi rfl)⟩,jj h.cE hx,hp,(PH (bs:=[(x,tr)])).symm▸QQ h.hl⟩
theorem HR(h:xT Z shut lo s items p)(hx:qD x)(l43:ao lo 43=some (.str [x])):ea (dE P (.and [.cmp .gt (.aS 0 [.vr 6]) (.int 1),.cmp .eq (.az (.vr 44) (.vr 43)) (.str [])])) c lo s=.ok (decide (1<items.length/\Z.vd x=[])) s:=by
 refine dQ h.l6 λli k1 k2 k3 k4=>?_;obtain⟨_,ves,g1,g2⟩:=Z.gv.kp h.kp;have ln:dE P (.aS 0 [.vr 6]) c lo s=.ok (.int items.length) s:=vF (ai k1) ((y0 k4 (il h.hi)).trans (by rw[P9]));by_cases h1:1<items.length
 .rw[Bool.decide_and,decide_eq_true h1,Bool.true_and];exact(eK (iB (dU ln aK (congrArg some ((de _ _).mpr (Ro.mpr h1)))) rfl (dU (bw (ai h.vQ) (ai l43) (dN g1 rfl (g2 x hx))) aU (congrArg some (y9 _ _)))) rfl)
 .rw[Bool.decide_and,decide_eq_false h1,Bool.false_and];exact(eK (iB (dU ln aK (congrArg some (y5 λe=>h1 (Ro.mp e)))) rfl rfl) rfl)
theorem HS(h:xT Z shut lo s items p)(hn:items.length<=n):
  Ay (block (dM P wE) ⟨1000,run eR (n+1)⟩ lo s) (kM Z.w (pL Z.vd (Z.w.drop p) items shut)) Z.s0:=by
 refine dQ h.l6 λli k1 k2 k3 k4=>?_;have sl:dE P _ ⟨1000,run eR (n+1)⟩ lo s=_:=CS h.qB h.qC h.hp (QD Z.hw (by decide));have tr:=nv k4 (il h.hi);have pe:Z.w.length-(Z.w.drop p).length=p:=by rw[Ra,Nat.sub_sub_self h.hp]
 unfold pL;induction items with
 |nil=>exact bW lo s (by rw[if_pos (.inl rfl),kM,pe];exact cV (jz (eK (pv (v_not (eK (ai k1) tr)) rfl rfl) rfl) (cV (fm (fS (cx bj (ai h.qC))))))) h.kp|cons y ys=>
  have t2:ea (dE P (.or [.not (.vr 6),.cmp .ne (.bN (.vr 41) (.vr 49) (.dX .add (.vr 49) (.int 1)) .none) (.vr 40)])) ⟨1000,run eR (n+1)⟩ lo s=.ok _ s:=eK (pv (v_not (eK (ai k1) tr)) rfl (dU sl (ai h.EY) (congrArg (ub eA) (congrArg some (y9 _ _))))) rfl;by_cases hz:(Z.w.drop p).take 1=shut
  .rw[decide_eq_true hz] at t2;refine PW (zh n (y::ys) li Z.vl s nofun hn h.hi h.cE k3 k4 (Z.gv.kp h.kp)) λs' hz0=>?_;exact bW lo s' (by rw[if_neg λe=>e.elim nofun (· hz),kM,pe];exact au (bY t2 bg) (cV (fm (fS (cx (gI (cx (ai k1) (ai h.vQ)) hz0.1) (ai h.qC)))))) (h.kp.trans hz0.2)
  .rw[decide_eq_false hz] at t2;exact bW lo s (by rw[if_pos (.inr hz),kM,pe];exact cV (jz t2 (cV (fm (fS (cx bj (ai h.qC))))))) h.kp
noncomputable def rT (c:Ctx) (m:Nat) (lo:Lo) (s:Mp.St):R (Flow×Lo):=(bb (Mp.s.v7 (dE P wT) (block (dM P wB)) (block []) c m lo s)).bind λr s=>match r.1 with
 |.next=>block (dM P wE) c r.2 s|_=>.ok r s
theorem MB{s1 s2:Mp.St}(h:ea (dE P wT) c lo s=.ok true s1)(h2:block (dM P wB) c lo s1=.ok (.next,lo1) s2)(h3:rT c m lo1 s2=q):rT c (m+1) lo s=q:=by unfold rT;rw[Ks h h2 rfl];exact h3
theorem FW{s1 s2:Mp.St}(h:ea (dE P wT) c lo s=.ok true s1)(h2:block (dM P wB) c lo s1=.ok (.ret v,lo1) s2):rT c (m+1) lo s=.ok (.ret v,lo1) s2:=nx (Kt h h2) rfl
theorem KL{s1:Mp.St}(h:ea (dE P wT) c lo s=.ok false s1)(h2:block (dM P wE) c lo s1=q):rT c (m+1) lo s=q:=nx (CQ h rfl) h2
theorem tX{w:List Nat}(h:p<=w.length)(e:w.drop p=suf):w.length-suf.length=p:=by rw[<-e,Ra,Nat.sub_sub_self h]
noncomputable def HT (Z:Rm) (n m:Nat) (lo:Lo) (s:Mp.St) (r:Rs):Prop:=Ay (rT ⟨1000,run eR (n+1)⟩ m lo s) (kM Z.w r) Z.s0
theorem HT.go{s1 s2:Mp.St}{r:Rs}(h:ea (dE P wT) ⟨1000,run eR (n+1)⟩ lo s=.ok true s1)(h2:block (dM P wB) ⟨1000,run eR (n+1)⟩ lo s1=.ok (.next,lo1) s2)(h3:HT Z n m lo1 s2 r):HT Z n (m+1) lo s r:=
 h3.imp λzz=>Exists.imp λzz e=>⟨MB h h2 e.1,e.2⟩
noncomputable def C4 (f:Nat):Prop:=∀(Z:Rm) shut lo s items p n j,xT Z shut lo s items p->(Z.w.drop p).length<f->f+items.length<=n->HT Z n (j+f) lo s (rd Z.vd f (Z.w.drop p) items shut)
theorem zj{f:Nat}(H:C4 f)(hp:p<=Z.w.length)(hf:(Z.w.drop p).length<f)(hn:f<=n)(hj:f<=1000):Cl (run eR (n+2) 13 [.str Z.w,.int p,.str shut,.ar Z.vl] Z.s0) (kM Z.w (rd Z.vd f (Z.w.drop p) [] shut)) Z.s0:=by refine PW (Qp hj) λj hj=>?_;refine a8 (H Z shut (a9 [(41,.str Z.w),(49,.int p),(40,.str shut),(44,.ar Z.vl)] 6 (.ar Z.s0.n)) (Z.s0.new (.list [])) [] p n j ⟨rfl,rfl,rfl,rfl,(iH _ rfl (P5 _) (P1 _) gn),Kp.new _ _,nofun,hp,QX _⟩ hf hn) λlo' s' e k=>?_;rw[<-hj] at e;exact ag s' (HP (au (bZ (gH vw)) e)) k
theorem vT{s1:Mp.St}(h:xT Z shut lo s1 items p)(hn:items.length<=n)(hd:Z.w.drop p=suf)(t:ea (dE P wT) ⟨1000,run eR (n+1)⟩ lo s=.ok false s1):HT Z n (m+1) lo s (pL Z.vd suf items shut):=by refine a8 (HS h hn) λlo' s' e k=>?_;exact bW lo' s' (KL t (hd▸e)) k
theorem rU:∀f,f<=1000->C4 f
 |0=>λzz Z shut lo s items p n j h hf=>absurd hf (Nat.not_lt_zero _)|f+1=>λhf1 Z shut lo s items p n j h hf hn=>by
  have ih:=rU f (Ri hf1);have h1:=h.bq (Kp.new s (.list Il));have hn1:items.length<=n:=PN (Q1 ..) hn;cases hd:Z.w.drop p with
  |nil=>exact vT h1 hn1 hd (C3 h (hd▸rfl))|cons x suf=>
   obtain⟨hd1,hp1⟩:=fG hd;rw[hd] at hf;have hf2:=Ry hf;have t1:qD x->ea (dE P wT) ⟨1000,run eR (n+1)⟩ lo s=.ok true _:=λhl=>C3 h (hd▸HQ hl);have b0:dS P _ ⟨1000,run eR (n+1)⟩ lo (s.new (.list Il))=.ok (.next,a9 lo 43 _) _:=bZ (bw (ai h1.qB) (ai h1.qC) (xK (jv hd) (QD Z.hw (by decide))));have h2:=h1.up (k:=43) (v:=.str [x]) rfl rfl rfl rfl (lm h1.qC rfl) (P5 _) h.hp;have h3:=h2.up (k:=47) (v:=.str [x]) rfl rfl rfl rfl (lm h2.qC rfl) (P5 _) h.hp;have b1:=λhl=>HR (c:=⟨1000,run eR (n+1)⟩) h2 (x:=x) hl lk;refine vR (λhl hv=>?_) (λho hv=>?_) (λhl ho hv=>?_) (λhl=>?_)
   .rw[decide_eq_true hv] at b1;exact bW _ _ (by rw[kM,tX h.hp hd];exact FW (t1 hl) (au b0 (cV (jz (b1 hl) (cV (fm (fS (cx bj (ai h2.qC))))))))) h1.kp
   .clear h2 hf;subst ho;have hl:qD 111:=.inr (.inr rfl);rw[decide_eq_false hv] at b1;refine PW (Qp (PN (Q1 1 f) (PN (Qz ..) hn))) λn z1=>?_;obtain rfl:=z1;refine aa (zj (Z:={Z with s0:=s.new (.list Il),gv:=Z.gv.kp h1.kp}) (n:=n) (shut:=[99]) ih hp1 (hd1.symm▸hf2) (Nat.le_of_succ_le_succ (PN (Qz ..) hn)) (Ri hf1)) λs2 c1 k2=>?_;have ec:dE P (.call 13 [.vr 41,.dX .add (.vr 49) (.int 1),.str [99],.vr 44]) ⟨1000,run eR (n+1+1)⟩ _ _=_:=gI (dP (ai h3.qB) (dP (e9 (ai h3.qC) aK rfl) (cx aU (ai h3.vQ)))) c1;have T:=KI (vd:=Z.vd) f suf [] [99] 0 nofun;dsimp only at ec;rw[hd1] at ec;revert ec T;cases rd Z.vd f suf [] [99] with
    |pV q=>exact λec zz=>bW _ _ (FW (t1 hl) (au b0 (au (bY (b1 hl) bg) (au (bZ (ai lk)) (cV (jz (dI (ai (lm lk rfl)) aU rfl) (au (FP ec) (cV (jz (dI (ai (lm lk rfl)) bj rfl) (cV (fm (fS (cx bj (ai lk)))))))))))))) (h1.kp.trans k2)|ok t q=>
     intro ec T;refine bK T λk i T1 T2 T3 T4=>?_;clear T c1 hf1;obtain⟨q,rfl⟩:=C1 T4;have hq:Z.w.drop (p+1+i)=99::q:=by rw[T3,<-hd1,List.drop_drop]
     refine dw (fG hq) λhd2 hp2=>?_;have hp2':=Qg hp2;rw[kM,tX hp2' hq] at ec;have h5:=(((h3.bq k2).up (k:=50) (v:=t) rfl rfl rfl rfl (lm h3.qC rfl) (P5 _) h.hp).up (k:=49) (p':=p+1+i) rfl rfl rfl rfl lk (PN (R5 p) (Qz ..)) hp2');refine a8 (KJ (c:=⟨1000,run eR (n+1+1)⟩) (h5.up (k:=47) (v:=.av [t]) rfl rfl rfl rfl (lm h5.qC rfl) (P5 _) hp2') (lm (lm (lm (lm lk rfl) rfl) rfl) rfl) lk hl hp2) λlo5 s5 b5 h8=>?_;exact HT.go (t1 hl) (au b0 (au (bY (b1 hl) bg) (au (bZ (ai lk)) (au (jz (dI (ai (lm lk rfl)) aU rfl) (au (FP ec) (au (bY (dI (ai (lm lk rfl)) bj T1.1) bg) (au (bZ (fS (ew (ai (lm lk rfl))))) bg)))) b5))))
      (hd2▸ih Z shut lo5 s5 _ _ (n+1) j h8 (by rw[hd2];exact PY (fk T2) hf2) (by rw[PH];exact fk hn))
   .rw[decide_eq_false hv] at b1;refine a8 (KJ (c:=⟨1000,run eR (n+1)⟩) h3 (lm lk rfl) lk hl hp1) λlo5 s5 b5 h8=>?_;exact HT.go (t1 hl) (au b0 (au (bY (b1 hl) bg) (au (bZ (ai lk)) (au (bY (dI (ai (lm lk rfl)) aU (congrArg some ((y9 [x] [111]).trans (decide_eq_false λe=>ho (Qr e).1)))) bg) b5))))
     (hd1▸ih Z shut lo5 s5 _ _ n j h8 (hd1.symm▸hf2) (by rw[PH];exact fk hn))
   .exact vT h1 hn1 hd (C3 h (by rw[hd,(Z.hL x (P7 (jv hd))).resolve_left hl];rfl))
end
end
set_option genInjectivity false
section
theorem eq_self{vs:List V}{s:Mp.St}(k:bV (.av vs) 60=true):Ff (.av vs) (.av vs) s=some true:=by refine(?_:Io (.av vs) (.av vs)=_);unfold Io;rw[k];exact(m7 k k).trans (congrArg some ((dg k k).mpr rfl))
theorem EZ{w suf shut:List Nat}{r:Rs}{n:Nat}{s:Mp.St}(h:Ik shut suf n r)(hn:n<=59):Ff (kM w r) (kM w r) s=some true:=by
 induction r with
 |pV q=>exact eq_self rfl|ok t q=>refine aw h λk zz h1 h2 zz=>?_;exact eq_self ((bL _ _ 59).mpr ⟨h1.2 59 (PN (fk h2) hn),rfl⟩)
theorem HU{n:Nat}{c:Ctx}{a b d v:V}{lo:Lo}{s s':Mp.St}(hc:c=⟨1000,run eR n⟩)(h:block (dM P Lu) c [(51,a),(52,b),(41,d)] s=.ok (.ret v,lo) s'):run eR (n+1) 14 [a,b,d] s=.ok v s':=by subst hc;rw[<-FH] at h⊢;exact nx h rfl
theorem KN{i j:Int}{s:Mp.St}(h:aP (small i) (small j)=true):fX .mul (.int i) (.int j) s=.ok (.int (i*j)) s:=by unfold fX;dsimp only;rw[h]
theorem E0{M:Ma}{lo:Lo}{s:Mp.St}(h:gJ M lo s [0] [] 0)(hw:M.w.length<=50):Ay (FL M 1000 0 (4*M.w.length+4) lo s) (kM M.w (rd M.vd (M.w.length+1) M.w [] [])) M.s0:=by
 have go:=zd (M:=M) (M.w.length+1) ⟨[],0,1,[],[],.inl (j2 rfl rfl rfl),rfl⟩ M.w [] 0 (P1 _) rfl (QX _) (P5 _);have fu:∀ {k S' T' p' v},k<=3*M.w.length->Go M k [0] [] 0 S' T' p'->vK M S' T' p' v->Ay (FL M 1000 0 (4*M.w.length+4) lo s) v M.s0:=λ {k _ _ _ _} hk g1 g2=>by obtain⟨n,hn⟩:=Qp (show 1+k<=1000 by omega);have x:=Go.dY g1 g2 lo s n (4*M.w.length+4) h (by omega);rw[Nat.add_assoc,<-hn] at x;exact x
 revert go;cases rd M.vd (M.w.length+1) M.w [] [] with
 |pV suf=>intro go;refine AL go λk S' T' p' g1 g2 g3 g4 g5=>?_;rw[kM,tX g5 g4];exact fu g3 g1 g2
 |ok t suf=>
  intro go;refine AJ go λk p' g1 g2 g3 g4 g5 zz=>?_;rw[kM,tX g4 g3];have e:suf=[]:=by clear go hw;induction suf with|nil=>rfl|cons _ _=>exact nomatch g5
  exact fu (PN (by rw[e];exact R5 _) g2) g1 (vK.of λlo s h=>⟨_,CU (S:=[0]) (T:=[]) h (P4 rfl) g4 (by rw[g3,e];exact M.mc.e1.2)⟩)
theorem HV{M:Ma}{n:Nat}(hc:M.c=⟨1000,run eR n⟩)(hw:M.w.length<=50):Cl (run eR (n+1) 14 [.bc 3 M.d,.ar M.B,.str M.w] M.s0) (kM M.w (rd M.vd (M.w.length+1) M.w [] [])) M.s0:=by
 have hl:M.w.length<1000:=Mv;obtain⟨lo',s',e,k⟩:=E0 (M:=M) (lo:=a9 (a9 (a9 [(51,.bc 3 M.d),(52,.ar M.B),(41,.str M.w)] 53 (.ar M.s0.n)) 46 (.ar (M.s0.n+1))) 49 (.int 0)) (s:=(M.s0.new (.list [.int 0])).new (.list []))
  ⟨rfl,rfl,rfl,rfl,⟨M.s0.n,M.s0.n+1,rfl,rfl,P5 _,R5 _,Qw (P1 _),Qy (P1 _),P1 _,t6 (P1 _) gn,gn⟩,(Kp.new _ _).nw _⟩ hw
 have hn:1000=M.c.n:=by rw[hc]
 rw[hn] at e;exact ag s' (HU hc (au (bZ (gH (ew aK))) (au (bZ (gH vw)) (au (bZ aK) (cV (CJ (CM (e9 (e9 aK (vF (ai rfl) (xM rfl hl)) (KN (congrArg (aP _) (fF hl)))) aK rfl) (fF (j:=4*M.w.length+4) (by omega))) (congrArg bb e))))))) k
end
set_option genInjectivity false
open Mp.s (oI oS oL oO oD oV oN oT)
section
noncomputable def pR (v pe:WL):List Nat:=bif Mp.s.jL v.2 pe.2 pe.1 then [115,104,105,102,116] else bif Mp.s.pY v.2 pe.2 pe.1 then [] else [114,101,100,117,99,101]
noncomputable def t7 (va vb vo pe:WL) (x:Nat):List Nat:=if x=97 then pR va pe else if x=98 then pR vb pe else pR vo pe
noncomputable def KO:Nat->Nat|0=>1|1=>4|2=>3|_=>2
noncomputable def MC:Nat->Nat|0=>2|1=>1|2=>4|_=>3
noncomputable def MD:Nat->Nat|0=>3|1=>2|2=>1|_=>4
noncomputable def ME:Nat->Nat|0=>4|1=>3|2=>2|_=>1
theorem hH{C:Nat->Prop}(h0:C 0)(h1:C 1)(h2:C 2)(h3:C 3):∀t,t<4->C t
 |0,_=>h0|1,_=>h1|2,_=>h2|3,_=>h3|n+4,h=>absurd h (Q4 (Q1 ..))
section
variable{va vb vo pe v:WL}{x n:Nat}{A:Nat->List Nat->V}{vd:Nat->List Nat}{r:Nat}
theorem C5(h:A 5 [x]=bif Mp.s.jL v.2 pe.2 pe.1 then .int n else bif Mp.s.pY v.2 pe.2 pe.1 then .none else .int (-(r:Int)))(e:vd x=pR v pe):Cf A vd r x n:=by
 unfold pR at e;revert h e;cases Mp.s.jL v.2 pe.2 pe.1 with
 |true=>exact λh e=>⟨λz=>(nomatch e.symm.trans z),λzz=>h,λz=>(nomatch e.symm.trans z),.inr (.inl e)⟩|false=>
  cases Mp.s.pY v.2 pe.2 pe.1 with
  |true=>exact λh e=>⟨λzz=>h,λz=>(nomatch e.symm.trans z),λz=>(nomatch e.symm.trans z),.inl e⟩|false=>exact λh e=>⟨λz=>(nomatch e.symm.trans z),λz=>(nomatch e.symm.trans z),λzz=>h,.inr (.inr e)⟩
theorem cells{α β:Type}{f:α->β}{b:β}{l:List α}(h:l.map f=RE l.length b):∀x∈l,f x=b:=List.map_eq_replicate_iff.mp h
theorem zk(t:Nat)(ht:t<4):Kx (iK t va vb vo pe) (iJ t) (kH t) (nA t) (nB t) (nO t) (KO t) (MC t) (MD t) (ME t) (t7 va vb vo pe) where
 hA:=hH (C:=λt=>0<nA t/\nA t<8) (by decide) (by decide) (by decide) (by decide) t ht
 hB:=hH (C:=λt=>0<nB t/\nB t<8) (by decide) (by decide) (by decide) (by decide) t ht
 hO:=hH (C:=λt=>0<nO t/\nO t<8) (by decide) (by decide) (by decide) (by decide) t ht
 sh:=cells (by revert t;exact hH rfl rfl rfl rfl)
 e0:=cells (by revert t;exact hH rfl rfl rfl rfl)
 e1:=hH (C:=λt=>iK t va vb vo pe 1 [99]=.none/\iK t va vb vo pe 1 [36,101,110,100]=.int 0) ⟨rfl,rfl⟩ ⟨rfl,rfl⟩ ⟨rfl,rfl⟩ ⟨rfl,rfl⟩ t ht
 e6:=hH (C:=λt=>iK t va vb vo pe 6 [99]=.int 7/\iK t va vb vo pe 6 [36,101,110,100]=.none) ⟨rfl,rfl⟩ ⟨rfl,rfl⟩ ⟨rfl,rfl⟩ ⟨rfl,rfl⟩ t ht
 ra:=cells (by revert t;exact hH rfl rfl rfl rfl)
 re:=hH (C:=λt=>iK t va vb vo pe 5 [99]=.int (-(KO t:Int))/\iK t va vb vo pe 5 [36,101,110,100]=.int (-(KO t:Int))) ⟨rfl,rfl⟩ ⟨rfl,rfl⟩ ⟨rfl,rfl⟩ ⟨rfl,rfl⟩ t ht
 cA:=C5 (by revert t;exact hH rfl rfl rfl rfl) rfl
 cB:=C5 (by revert t;exact hH rfl rfl rfl rfl) rfl
 cO:=C5 (by revert t;exact hH rfl rfl rfl rfl) rfl
 g:=hH (C:=λt=>iJ t 0=.int 1/\iJ t 1=.int 5/\iJ t (nO t)=.int 6/\iJ t 5=.int 5/\iJ t 6=.int 5) (Ib rfl rfl rfl rfl rfl) (Ib rfl rfl rfl rfl rfl) (Ib rfl rfl rfl rfl rfl) (Ib rfl rfl rfl rfl rfl) t ht
 r:=hH (C:=λt=>0<KO t/\0<MC t/\0<MD t/\0<ME t) (by decide) (by decide) (by decide) (by decide) t ht
 bE:=by revert t;exact hH rfl rfl rfl rfl
 bA:=by revert t;exact hH rfl rfl rfl rfl
 bB:=by revert t;exact hH rfl rfl rfl rfl
 bO:=by revert t;exact hH rfl rfl rfl rfl
 bl:=hH (C:=λt=>(kH t).length<1000) (by decide) (by decide) (by decide) (by decide) t ht
end
structure MF (t:Nat) (mk:Bool) (w:List Nat) (W:List (V×V)) (va vb vo pe:WL) (lo:Lo) (s:Mp.St) (d la lg lc lr:Nat):Prop where
 tT:ao lo 51=some (.bc 3 d)
 zl:ao lo 35=some (.ar 0)
 FT:ao lo 52=some (.ar 1)
 Lz:ao lo 64=some (.bool mk)
 qB:ao lo 41=some (.str w)
 g0:s.get 0=some (.dict W)
 gc:s.get lc=some (.dq (pF t va vb vo pe))
 gr:s.get lr=some (.list [])
 fs:∃fs,s.get d=some (.ns fs)/\ao fs 56=some (.ar la)/\ao fs 59=some (.ar lg)/\ao fs 70=some (.ar lc)/\ao fs 71=some (.ar lr)
 bd:∀i∈[d,la,lg,lc,lr,0,1],i<s.n
 tb:Tb s d la lg 1 (iK t va vb vo pe) (iJ t) (kH t)
theorem C6{r:R (Flow×Lo)}{q:Lo×Mp.St}(h:OM r=some q):r=.ok (.next,q.1) q.2:=by
 induction r with
 |ok a s=>
  induction a with
  |mk f lo=>
   induction f with
   |next=>exact PD h▸rfl|_=>exact ns h
 |_=>exact ns h
noncomputable def MG (r:R (Flow×Lo)) (t:Nat) (mk:Bool) (w:List Nat) (W:List (V×V)) (va vb vo pe:WL):Prop:=∃lo s d la lg lc lr,r=.ok (.next,lo) s/\MF t mk w W va vb vo pe lo s d la lg lc lr
section
variable{t:Nat}{mk:Bool}{w:List Nat}{W:List (V×V)}{va vb vo pe:WL}{lo:Lo}{s:Mp.St}{p:Nat×Nat}{fs:List (Nat×V)}{la lg lc lr:Nat}
theorem HW(e1:oO (ao lo 51)=some p)(e2:oN (s.get p.2)=some fs)(e3:oL (ao fs 56)=some la)(e4:oL (ao fs 59)=some lg)(e5:oL (ao fs 70)=some lc)(e6:oL (ao fs 71)=some lr)
  (b:∀i∈[p.2,la,lg,lc,lr,0,1],QT i s.n=true) (c:p.1=3) (r1:∀st∈RA 8,jK s la mw st=some (true,mw.map (iK t va vb vo pe st))) (r2:∀st∈RA 8,jK s lg [[69]] st=some (true,[iJ t st]))
  (l:[ao lo 35,ao lo 52,ao lo 64,ao lo 41]=[some (.ar 0),some (.ar 1),some (.bool mk),some (.str w)]) (g:[s.get lc,s.get lr,s.get 0,s.get 1]=[some (.dq (pF t va vb vo pe)),some (.list []),some (.dict W),some (.list (kH t))]):MF t mk w W va vb vo pe lo s p.2 la lg lc lr:=
 ⟨c▸kE e1,(Qr l).1,(Qr (Qr l).2).1,(Qr (Qr (Qr l).2).2).1,(Qr (Qr (Qr (Qr l).2).2).2).1,
  (Qr (Qr (Qr g).2).2).1,(Qr g).1,(Qr (Qr g).2).1,(ID fs (kF e2) (ey e3) (ey e4) (ey e5) (ey e6)),λi hi=>QR.mp (b i hi),
  QR.mp (b _ (.head _)),(bk fs (kF e2) (ey e3) (ey e4)),QR.mp (b _ (.tail _ (.head _))),QR.mp (b _ (.tail _ (.tail _ (.head _)))),QR.mp (b _ (.tail _ (.tail _ (.tail _ (.tail _ (.tail _ (.tail _ (.head _)))))))),(Qr (Qr (Qr (Qr g).2).2).2).1,
  λst hs=>r1 st (RF.mpr hs),λst hs=>r2 st (RF.mpr hs)⟩
theorem HX{r:R (Flow×Lo)}(h:gF r=gG mk w t W va vb vo pe):MG r t mk w W va vb vo pe:=by refine aa (PV.mp h) λq e0 h=>?_;refine aa (PV.mp h) λp e1 h=>?_;refine aa (PV.mp h) λfs e2 h=>?_;refine aa (PV.mp h) λla e3 h=>?_;refine aa (PV.mp h) λlg e4 h=>?_;refine aa (PV.mp h) λlc e5 h=>?_;refine aa (PV.mp h) λlr e6 h=>?_;have h:=PD h;exact⟨_,_,_,_,_,_,_,C6 e0,HW e1 e2 e3 e4 e5 e6 (Rq.mp (congrArg (·.1.1) h)) (congrArg (·.1.2) h) (List.map_inj_left.mp (congrArg (·.2.1.1) h)) (List.map_inj_left.mp (congrArg (·.2.1.2) h)) (congrArg (·.2.2.1) h) (congrArg (·.2.2.2) h)⟩
end
end
set_option genInjectivity false
section
theorem C7{n:Nat}{a b v:V}{lo:Lo}{s s':Mp.St}(h:block (dM P Mn) ⟨1000,run eR n⟩ [(38,a),(39,b)] s=.ok (.ret v,lo) s'):run eR (n+1) 10 [a,b] s=.ok v s':=by rw[<-FH] at h⊢;exact nx h rfl
theorem xU(n:Nat){pe:WL}(hw:AG pe.1)(v:WL)(s:Mp.St):Cl (run eR (n+1) 10 [tp pe,.int v.2] s) (.str (pR v pe)) s:=by
 by_cases he:pe.2=v.2
 .exact⟨_,C7 (cV (jz (dI (bw (ai rfl) aK rfl) (ai rfl) (congrArg some ((ej _ _).mpr he))) (cV (fm (bw (tR (ji aU aU (ji aU aU (ji aU aU y6))) rfl) (bw (ai rfl) aK rfl) (dN gn rfl (by
   unfold pR Mp.s.jL Mp.s.pY;rw[y5 λh=>Int.ne_of_lt h he,(ej _ _).mpr he.symm];rcases hw with h|h|h<;>rw[h]<;>rfl))))))),Kp.new _ _⟩
 .refine⟨s,C7 (au (bY (dI (bw (ai rfl) aK rfl) (ai rfl) (congrArg some (rQ he))) bg) (cV (fm ?_))),Kp.refl s⟩;unfold pR Mp.s.jL Mp.s.pY;rw[rQ (Ne.symm he)];cases h:gM pe.2 v.2 with
  |true=>exact mD (dI (ai rfl) (bw (ai rfl) aK rfl) (congrArg some h)) aU|false=>exact mD (dI (ai rfl) (bw (ai rfl) aK rfl) (congrArg some h)) aU
theorem Tb.bq{s s':Mp.St}{d la lg B:Nat}{A:Nat->List Nat->V}{G:Nat->V}{bs:List V}(h:Tb s d la lg B A G bs)(k:Kp s s'):Tb s' d la lg B A G bs:=
 have lt:=λ {i} (hi:i<s.n)=>PZ hi k.1;have gt:=λ {i es} (e:s.get i=some (.dict es)) (hi:i<s.n)=>k.get hi e
 ⟨lt h.hd,h.oE.imp λfs f=>⟨k.get h.hd f.1,f.2⟩,lt h.Ku,lt h.Kv,lt h.hB,k.get h.hB h.Mt,λst hs=>tS (h.qy st hs) k.1 gt h.Ku,λst hs=>tS (h.GB st hs) k.1 gt h.Kv⟩
section
variable{lo:Lo}{s:Mp.St}{pa pb po:Option WL}{pp pe:WL}{mk:Bool}{x:Nat}
theorem C8:aE (lM pa pb po pp) (.str [97])=pa.map tp:=by
 induction pa with
 |some=>rfl|none=>induction pb<;>induction po<;>rfl
theorem C9:aE (lM pa pb po pp) (.str [98])=pb.map tp:=by
 induction pb with
 |some=>induction pa<;>rfl
 |none=>induction pa<;>induction po<;>rfl
theorem zm:aE (lM pa pb po pp) (.str [111])=po.map tp:=by
 induction po with
 |some=>induction pa<;>induction pb<;>rfl
 |none=>induction pa<;>induction pb<;>rfl
theorem Dc{p:Option WL}:(p.map tp).getD (tp AF)=tp (wl p):=by induction p<;>rfl
theorem HY(pa pb po:Option WL)(pp:WL)(hx:qD x):∃v:WL,(aE (lM pa pb po pp) (.str [x])).getD (tp AF)=tp v/\t7 (wl pa) (wl pb) (wl po) pe x=pR v pe:=by
 rcases hx with rfl|rfl|rfl
 .exact ag (wl pa) (C8▸Dc) rfl
 .exact ag (wl pb) (C9▸Dc) rfl
 .exact ag (wl po) (zm▸Dc) rfl
theorem KP:aE (lM pa pb po pp) (.str [80])=some (tp pp):=by induction pa<;>induction pb<;>induction po<;>rfl
theorem KQ(Lz:ao lo 64=some (.bool mk))(zl:ao lo 35=some (.ar 0))(g:s.get 0=some (.dict (lM pa pb po pp))):dS P (nS vD 0) mv lo s=.ok (.next,a9 lo 38 (tp (bif mk then pp else AF))) s:=by
 induction mk with
 |true=>exact bZ (mD (eK (ai Lz) rfl) (bw (ai zl) aU (dN g rfl KP)))|false=>exact bZ (mD (eK (ai Lz) rfl) (fS (cx aU aK)))
structure MH (pa pb po:Option WL) (pp pe:WL) (lo:Lo) (s:Mp.St):Prop where
 E1:ao lo 38=some (tp pe)
 zl:ao lo 35=some (.ar 0)
 h0:0<s.n
 g:s.get 0=some (.dict (lM pa pb po pp))
noncomputable def vE:Mp.E:=.call 10 [.vr 38,.az (.aH (.vr 35) 2 [.vr 43,.av [.str [114,105,103,104,116],.int 0]]) (.int 1)]
noncomputable def OO (n:Nat) (xs:List Nat) (acc:List (V×V)) (lo:Lo) (s:Mp.St):R (List (V×V)):=Mp.e.gP (dE P (.vr 43)) (dE P vE) [43] (Mp.e.ifs (cW P [])) mv n (.str xs) acc lo s
theorem Dd(hw:AG pe.1){n:Nat}{xs:List Nat}{acc:List (V×V)}(hx:qD x)(h:MH pa pb po pp pe lo s)(ha:acc.length<1000):
  ∃s',Kp s s'/\MH pa pb po pp pe (a9 lo 43 (.str [x])) s'/\∀ {r},OO n xs (bD acc (.str [x]) (.str (t7 (wl pa) (wl pb) (wl po) pe x))) (a9 lo 43 (.str [x])) s'=r->OO (n+1) (x::xs) acc lo s=r:=by
 refine aa (HY (pe:=pe) pa pb po pp hx) λv v1 v2=>?_;refine aa (xU 98 hw v s) λs' e1 k=>?_;rw[<-v2] at e1;exact bk s' k ⟨lm h.E1 rfl,lm h.zl rfl,PZ h.h0 k.1,k.get h.h0 h.g⟩ (Kq rfl rfl rfl (ai lk) (gI (cx (ai (lm h.E1 rfl)) (bw (xJ (ai (lm h.zl rfl)) h.g (cx (ai lk) (fS (cx aU aK))) h.g ((Km rfl).trans (congrArg (R.ok · s) v1))) aK rfl)) e1) rfl ha)
noncomputable def Pq (vd:Nat->List Nat) (lo:Lo) (s:Mp.St):Prop:=∃s' vl,dS P (nS vD 1) mv lo s=.ok (.next,a9 lo 44 (.ar vl)) s'/\Kp s s'/\Dt vd s' vl
theorem KR(hw:AG pe.1)(h:MH pa pb po pp pe lo s):Pq (t7 (wl pa) (wl pb) (wl po) pe) lo s:=by refine aO (Dd hw (n:=999) (xs:=[98,111]) (acc:=[]) (.inl rfl) h (P4 rfl)) λs1 k1 h1 e1=>?_;refine aO (Dd hw (n:=998) (xs:=[111]) (acc:=bD [] (.str [97]) (.str (t7 (wl pa) (wl pb) (wl po) pe 97))) (.inr (.inl rfl)) h1 (P4 rfl)) λs2 k2 h2 e2=>?_;refine PW (Dd hw (n:=997) (xs:=[]) (acc:=bD (bD [] (.str [97]) (.str (t7 (wl pa) (wl pb) (wl po) pe 97))) (.str [98]) (.str (t7 (wl pa) (wl pb) (wl po) pe 98))) (.inr (.inr rfl)) h2 (P4 rfl)) λs3 hz0=>?_;exact⟨_,_,bZ (EK (y:=vE) (mh aU rfl) (e1 (e2 (hz0.2.2 (Kr rfl))))),((k1.trans k2).trans hz0.1).nw _,P1 _,_,gn,λx hx=>by rcases hx with rfl|rfl|rfl<;>rfl⟩
end
end
set_option genInjectivity false
section
noncomputable def dK (vd:Nat->List Nat) (rl:Int) (x:Nat):List V:=if vd x≠[]/\rl=0 then [.av [.int 5,.str [x],.str (vd x)]] else []
section
variable{vd:Nat->List Nat}{rl:Int}{x t:Nat}{v va vb vo pe:WL}{lo:Lo}{s:Mp.St}
theorem tY:(dK vd rl x).length<=1:=by unfold dK;split<;>exact P4 rfl
theorem xV(h:vd x≠[])(h':rl=0):dK vd rl x=[.av [.int 5,.str [x],.str (vd x)]]:=if_pos ⟨h,h'⟩
theorem xW(h:rl≠0):dK vd rl x=[]:=if_neg λe=>h e.2
theorem De(h:vd x=[]):dK vd rl x=[]:=if_neg λe=>e.1 h
theorem lR(hv:0<=v.2)(h:vd x=pR v pe):bo (tE v pe [x])=dK vd pe.2 x:=by
 unfold pR at h;unfold tE;cases hs:Mp.s.jL v.2 pe.2 pe.1 with
 |true=>
  rw[hs] at h;by_cases hz:pe.2=0
  .rw[xV (h▸nofun) hz,h,(ej _ _).mpr hz];rfl
  .rw[xW hz,rQ hz];rfl
 |false=>
  rw[hs] at h;cases hn:Mp.s.pY v.2 pe.2 pe.1 with
  |true=>rw[hn] at h;rw[De h];rfl|false=>
   rw[hn] at h;by_cases hz:pe.2=0
   .have z2:v.2=0:=by
     unfold Mp.s.jL at hs;refine Int.le_antisymm (Ru.mp λq=>?_) hv;rw[hz,(de _ _).mpr q] at hs;exact nomatch hs
    rw[xV (h▸nofun) hz,h,(ej _ _).mpr hz,(ej _ _).mpr z2];rfl
   .rw[xW hz,rQ hz];cases kP v.2 0<;>rfl
theorem fE{a b:List (Bool×V)}:bo (a++b)=bo a++bo b:=by unfold bo;rw[List.filter_append,QZ]
theorem E3{ka kb ko:List V}(h1:ka=[]\/∃p,ka=[.av [.int 5,.str [97],.str p]])(h2:kb=[]\/∃p,kb=[.av [.int 5,.str [98],.str p]])(h3:ko=[]\/∃p,ko=[.av [.int 5,.str [111],.str p]]):
  iG (ka++(kb++ko))=some (ka++(kb++ko))/\iG (kb++(ko++ka))=some (ka++(kb++ko))/\iG (ko++(ka++kb))=some (ka++(kb++ko)):=by
 rcases h1 with rfl|⟨p1,rfl⟩<;>rcases h2 with rfl|⟨p2,rfl⟩<;>rcases h3 with rfl|⟨p3,rfl⟩<;>exact⟨by kernel_rfl,by kernel_rfl,by kernel_rfl⟩
theorem AD(t:Nat)(ht:t<4)(ha:0<=va.2)(hb:0<=vb.2)(ho:0<=vo.2):iG (bo (pF t va vb vo pe))=some (dK (t7 va vb vo pe) pe.2 97++(dK (t7 va vb vo pe) pe.2 98++dK (t7 va vb vo pe) pe.2 111)):=by
 have fU:∀x,dK (t7 va vb vo pe) pe.2 x=[]\/∃p,dK (t7 va vb vo pe) pe.2 x=[.av [.int 5,.str [x],.str p]]:=λx=>by
  unfold dK;split
  .exact .inr ⟨_,rfl⟩
  .exact .inl rfl
 have s:=E3 (fU 97) (fU 98) (fU 111);have k:∀a b c:List (Bool×V),bo a++(bo b++bo c)=bo (a++(b++c)):=λzz zz zz=>(congrArg _ fE.symm).trans fE.symm;rw[<-lR (pe:=pe) ha rfl,<-lR (pe:=pe) hb rfl,<-lR (pe:=pe) ho rfl] at s⊢;rw[k,k,k] at s;rw[k];revert t;exact hH s.1 s.1 s.2.1 s.2.2
theorem KS{d la lg t vl:Nat}{w:List Nat}(ht:t<4)(tT:ao lo 51=some (.bc 3 d))(FT:ao lo 52=some (.ar 1))(qB:ao lo 41=some (.str w))(vQ:ao lo 44=some (.ar vl))(tb:Tb s d la lg 1 (iK t va vb vo pe) (iJ t) (kH t))
  (hL:∀x∈w,x=97\/x=98\/x=111\/x=99) (hw:w.length<=40) (gv:Dt (t7 va vb vo pe) s vl):∃s',dS P (nS vD 2) mv lo s=.ok (.next,lo) s'/\Kp s s':=by
 have hw3:w.length<300:=PY hw (by decide);refine aa (HV (n:=98) (M:=⟨s,w,d,la,lg,1,iK t va vb vo pe,iJ t,kH t,⟨1000,run eR 98⟩,nA t,nB t,nO t,KO t,MC t,MD t,ME t,t7 va vb vo pe,tb,zk t ht,hL,hw3⟩) rfl (PN hw (by decide))) λs1 e1 k1=>?_;refine PW (zj (n:=97) (shut:=[]) (p:=0) (Z:=⟨s1,w,t7 va vb vo pe,vl,gv.kp k1,λx hx=>(hL x hx).elim (λh=>.inl (.inl h)) λh=>h.elim (λh=>.inl (.inr (.inl h))) λh=>h.elim (λh=>.inl (.inr (.inr h))) .inr,hw3⟩) (rU (w.length+1) (PN (QQ hw) (by decide))) (QX _) (P1 _) (PN (QQ hw) (by decide)) (PN (QQ hw) (by decide))) λs2 hz0=>?_;exact ag s2 (bY (dI (gI (dP (ai tT) (cx (ai FT) (ai qB))) e1) (gI (dP (ai qB) (dP aK (cx aU (ai vQ)))) hz0.1) (congrArg (ub eA) (EZ (KI _ w [] [] 0 nofun) (PN hw (by decide))))) bg) (k1.trans hz0.2)
theorem zo{d la lg B q g:Nat}{A:Nat->List Nat->V}{G:Nat->V}{bs:List V}{x:Mp.E}(tb:Tb s d la lg B A G bs)(tT:ao lo 51=some (.bc 3 d))(hq:q<8)(hx:dE P x mv lo s=.ok (.int q) s)(hg:G q=.int g):dE P (.az (.az (.ah (.vr 51) 59) x) (.str [69])) mv lo s=.ok (.int g) s:=by refine aO tb.oE λfs f1 zz f3=>?_;refine fZ (tb.Kw hq hg) λqy r row a1 a2 a3 a4 a5=>?_;exact bw (bw (jZ (ai tT) f1 f3) hx (dN a1 rfl a2)) aU (dN a4 rfl a5)
theorem KU{d la lg B:Nat}{A:Nat->List Nat->V}{bs:List V}(tb:Tb s d la lg B A (iJ t) bs)(tT:ao lo 51=some (.bc 3 d)):dS P (nS vD 3) mv lo s=.ok (.next,a9 lo 68 (.int 5)) s:=
 bZ (zo (q:=1) (g:=5) tb tT (P4 rfl) (zo (q:=0) (g:=1) tb tT (P4 rfl) aK rfl) rfl)
noncomputable def MI:Mp.E:=.and [.az (.vr 44) (.vr 43),.cmp .eq (.az (.vr 38) (.int 1)) (.int 0)]
noncomputable def MJ:Mp.E:=.av [.vr 68,.vr 43,.az (.vr 44) (.vr 43)]
theorem Df{vl n:Nat}{xs:List Nat}{acc:List V}{q:R (List V)}(hx:qD x)(hv:vd x=[]\/vd x=[115,104,105,102,116]\/vd x=lQ)(E1:ao lo 38=some (tp pe))(vQ:ao lo 44=some (.ar vl))(l68:ao lo 68=some (.int 5))(gv:Dt vd s vl)(ha:acc.length<1000)
  (h:Mp.e.fb (dE P MJ) [43] (e.ifs (cW P [MI])) mv n (.str xs) (acc++dK vd pe.2 x) (a9 lo 43 (.str [x])) s=q):Mp.e.fb (dE P MJ) [43] (e.ifs (cW P [MI])) mv (n+1) (.str (x::xs)) acc lo s=q:=by
 obtain⟨_,ves,g1,g2⟩:=gv;have e:dE P (.az (.vr 44) (.vr 43)) mv (a9 lo 43 (.str [x])) s=.ok (.str (vd x)) s:=bw (ai (lm vQ rfl)) (ai lk) (dN g1 rfl (g2 x hx));by_cases h0:vd x=[]
 .rw[De h0,QI] at h;rw[h0] at e;exact HH rfl rfl (vH (eK (iB e rfl rfl) rfl)) h
 .have tr:aM (.str (vd x)) s=some true:=by rcases hv.resolve_left h0 with z|z<;>rw[z]<;>rfl
  by_cases hz:pe.2=0
  .rw[xV h0 hz] at h;exact CO rfl rfl (vH (eK (iB e tr (dU (bw (ai (lm E1 rfl)) aK rfl) aK (congrArg some ((ej _ _).mpr hz)))) rfl)) (fS (dP (ai (lm l68 rfl)) (cx (ai lk) e))) ha h
  .rw[xW hz,QI] at h;exact HH rfl rfl (vH (eK (iB e tr (dU (bw (ai (lm E1 rfl)) aK rfl) aK (congrArg some (rQ hz)))) rfl)) h
theorem KW{vl:Nat}(hv:∀x,qD x->vd x=[]\/vd x=[115,104,105,102,116]\/vd x=lQ)(E1:ao lo 38=some (tp pe))(vQ:ao lo 44=some (.ar vl))(l68:ao lo 68=some (.int 5))(gv:Dt vd s vl):
  dS P (nS vD 4) mv lo s=.ok (.next,a9 lo 69 (.ar s.n)) (s.new (.list (dK vd pe.2 97++(dK vd pe.2 98++dK vd pe.2 111)))):=
 bZ (tO (x:=MJ) (ifs:=[MI]) (mh aU rfl) (Df (.inl rfl) (hv _ (.inl rfl)) E1 vQ l68 gv (RK _) (Df (.inr (.inl rfl)) (hv _ (.inr (.inl rfl))) (lm E1 rfl) (lm vQ rfl) (lm l68 rfl) gv (PY tY (by decide)) (Df (.inr (.inr rfl)) (hv _ (.inr (.inr rfl))) (lm (lm E1 rfl) rfl) (lm (lm vQ rfl) rfl) (lm (lm l68 rfl) rfl) gv (by rw[PH];exact PY (Nat.add_le_add tY tY) (by decide)) ((y8 rfl).trans (by rw[List.nil_append,Qx]))))))
theorem zp:∀(xs:List V) (d:Nat),eU xs d=bS xs d
 |[],d=>rfl|x::xs,d=>by rw[nL,<-zp xs d];rfl
theorem Dg{xs:List V}(hk:eU xs 60=true):Ip xs xs=some true:=by have kt:bV (.av xs) 61=true:=(zp xs 60).symm.trans hk;unfold Ip;rw[RL,hk];exact(m7 kt kt).trans (congrArg some ((dg kt kt).mpr rfl))
theorem KY{d lc lr tl:Nat}{fs:List (Nat×V)}{L T:List V}(tT:ao lo 51=some (.bc 3 d))(l69:ao lo 69=some (.ar tl))(g:s.get d=some (.ns fs))(f1:ao fs 70=some (.ar lc))(f2:ao fs 71=some (.ar lr))(gc:s.get lc=some (.list L))(gr:s.get lr=some (.list []))(gt:s.get tl=some (.list T))(htl:tl<s.n)(hd:d<s.n)(hlr:lr<s.n)(hs:iG L=some T)(hk:eU T 60=true):
  ∃lo' s',dS P (nS vD 5) mv lo s=.ok (.ret (.bool true),lo') s':=
 gb _ _ (fm (iB (dU (vF (jZ (ai tT) g f1) (EO gc hs)) (ai l69) (FO gn (t6 htl gt) (Dg hk))) rfl (dU (jZ (ai tT) (t6 hd g) f2) (gH vw) (FO (t6 (Qy hlr) (t6 hlr gr)) gn rfl))))
end
end
set_option genInjectivity false
section
theorem j1{r:R (Flow×Lo)}{ys m:List Nat}{q:Lo×Mp.St}(h:rP r ys m=some q):∃lo s,r=.ok (.next,lo) s/\lL ys m lo s=some q:=by
 induction r with
 |ok a s=>
  induction a with
  |mk f lo=>
   induction f with
   |next=>exact bW _ _ rfl h|_=>exact ns h
 |_=>exact ns h
theorem tZ{a:List Nat}{k:V}(hk:aA k=true)(h:mG (jk (.str a) k)=true):k=.str a:=
 ((dg (d:=8) rfl hk).mp ((congrArg mG (m7 (d:=8) rfl hk)).symm.trans h)).symm
theorem eG{p:V×V}{es:List (V×V)}{x v:V}(h:aE (p::es) x=some v):(mG (jk p.1 x)=true/\p.2=v)\/aE es x=some v:=by
 change @PS (λzz=>Option V) (aE es x) (some p.2) (mG (jk p.1 x))=_ at h;revert h;cases mG (jk p.1 x) with
 |true=>exact λh=>.inl ⟨rfl,PD h⟩|false=>exact .inr
section
variable{pa pb po:Option WL}{pp:WL}{k v:V}
theorem xX{p:Option WL}{o:Option V}(h:o=p.map tp):o=some (tp (wl p))\/(o=none/\tp (wl p)=tp AF):=by
 induction p with
 |none=>exact .inr ⟨h,rfl⟩|some q=>exact .inl h
theorem E4(h:aE [(V.str [97],tp (wl pa)),(.str [98],tp (wl pb)),(.str [111],tp (wl po))] k=some v)(hk:aA k=true):aE (lM pa pb po pp) k=some v\/(aE (lM pa pb po pp) k=none/\v=tp AF):=by
 rcases eG h with⟨e,rfl⟩|h
 .rw[tZ hk e];exact xX C8
 rcases eG h with⟨e,rfl⟩|h
 .rw[tZ hk e];exact xX C9
 rcases eG h with⟨e,rfl⟩|h
 .rw[tZ hk e];exact xX zm
 .exact ns h
end
section
variable{s:Mp.St}{l:Nat}{o:O}{ls:List (Bool×V)}
theorem pS(hl:s.get l=some (.dq ls)){i:Nat}{x:O}(hi:s.get i=some x)(hx:∀y,x≠ .dq y):(s.bU l o).get i=some x:=
 iI (λq=>hx ls (PD (hi.symm.trans (q▸hl)))) hi
theorem Tb.bU{d la lg B:Nat}{A:Nat->List Nat->V}{G:Nat->V}{bs:List V}(h:Tb s d la lg B A G bs)(hl:s.get l=some (.dq ls)):Tb (s.bU l o) d la lg B A G bs:=
 have ne:=λ {i es} (e:s.get i=some (.dict es)) (_:i<s.n)=>pS (o:=o) hl e nofun
 ⟨h.hd,h.oE.imp λfs f=>⟨pS hl f.1 nofun,f.2⟩,h.Ku,h.Kv,h.hB,pS hl h.Mt nofun,λst hs=>tS (h.qy st hs) (P5 _) ne h.Ku,λst hs=>tS (h.GB st hs) (P5 _) ne h.Kv⟩
end
theorem vU{a b:List V}(h1:eU a 60=true)(h2:eU b 60=true):eU (a++b) 60=true:=by
 induction a with
 |nil=>exact h2|cons v a ih=>
  change @PS (λzz=>Bool) false (eU a 60) (bV v 60)=true at h1;refine(?_:@PS (λzz=>Bool) false (eU (a++b) 60) (bV v 60)=true);revert h1;cases bV v 60 with
  |false=>exact ft|true=>exact ih
theorem pT{vd:Nat->List Nat}{rl:Int}{x:Nat}:eU (dK vd rl x) 60=true:=by unfold dK;split<;>rfl
noncomputable def HZ (xs:List Mp.S) (lo:Lo) (s:Mp.St):Prop:=∃s',tK P mv xs lo s (.bool true) s'
theorem MK{t:Nat}(ht:t<4){mk:Bool}{w:List Nat}{pa pb po:Option WL}{pp pe:WL}{lo:Lo}{s:Mp.St}{d la lg lc lr:Nat}(hL:∀x∈w,x=97\/x=98\/x=111\/x=99)(hw:w.length<=40)(hpe:(bif mk then pp else AF)=pe)(hp:AG pe.1)(ha:0<=(wl pa).2)(hb:0<=(wl pb).2)(ho:0<=(wl po).2)
  (g:MF t mk w (lM pa pb po pp) (wl pa) (wl pb) (wl po) pe lo s d la lg lc lr):HZ vD lo s:=by
 refine Iv g.fs λfs f1 f2 f3 f4 f5=>?_;have x0:=KQ (pp:=pp) g.Lz g.zl (pS (o:=.list (bo (pF t (wl pa) (wl pb) (wl po) pe))) g.gc g.g0 nofun);rw[hpe] at x0;refine aw (KR (s:=s.bU lc (.list (bo (pF t (wl pa) (wl pb) (wl po) pe)))) (pa:=pa) (pb:=pb) (po:=po) (pp:=pp) hp ⟨lk (lo:=lo),lm g.zl rfl,PY (QX _) (g.bd _ (.head _)),pS g.gc g.g0 nofun⟩) λs2 vl x1 k2 gv=>?_;have tb2:=(g.tb.bU g.gc).bq k2;refine aa (KS (lo:=a9 (a9 lo 38 (tp pe)) 44 (.ar vl)) ht (lm (lm g.tT rfl) rfl) (lm (lm g.FT rfl) rfl) (lm (lm g.qB rfl) rfl) lk tb2 hL hw gv) λs3 x2 k3=>?_;have k4:=(k2.trans k3).nw (.list (dK (t7 (wl pa) (wl pb) (wl po) pe) pe.2 97++(dK (t7 (wl pa) (wl pb) (wl po) pe) pe.2 98++dK (t7 (wl pa) (wl pb) (wl po) pe) pe.2 111)));have mc:=zk t ht (va:=wl pa) (vb:=wl pb) (vo:=wl po) (pe:=pe);have lt:=λi hi=>PZ (g.bd i hi) k4.1;refine mZ (KY (lo:=a9 (a9 (a9 (a9 lo 38 (tp pe)) 44 (.ar vl)) 68 (.int 5)) 69 (.ar s3.n)) (lm (lm (lm (lm g.tT rfl) rfl) rfl) rfl) lk (k4.get (g.bd _ (.head _)) (pS g.gc f1 nofun)) f4 f5 (k4.get (g.bd _ (.tail _ (.tail _ (.tail _ (.head _))))) gp) (k4.get (g.bd _ (.tail _ (.tail _ (.tail _ (.tail _ (.head _)))))) (pS g.gc g.gr nofun)) gn (P1 _) (lt _ (.head _)) (lt _ (.tail _ (.tail _ (.tail _ (.tail _ (.head _)))))) (AD t ht ha hb ho) (vU pT (vU pT pT))) λlo5 s5 x5=>?_;exact⟨s5,.Bs (s.bU lc (.list (bo (pF t (wl pa) (wl pb) (wl po) pe)))) rfl (λi=>by
   by_cases q:i=lc
   .exact .inr (bQ _ _ (q▸g.gc) (q▸gp) .J9)
   .exact .inl (iI q rfl)) (.next x0 (.next x1 (.next x2 (.next (KU (tb2.bq k3) (lm (lm g.tT rfl) rfl)) (.next (KW (λx hx=>by rcases hx with rfl|rfl|rfl;exact mc.cA.o;exact mc.cB.o;exact mc.cO.o) (lm (lm lk rfl) rfl) (lm lk rfl) lk (gv.kp k3)) (.ret x5))))))⟩
theorem ML{mt:List Nat}(hm:mt=qA\/mt=Dq){t:Nat}(ht:t<4)(mk:Bool){w:List Nat}(hL:∀x∈w,x=97\/x=98\/x=111\/x=99)(hw:w.length<=40){pa pb po:Option WL}{pp:WL}(ha:HB pa)(hb:HB pb)(ho:HB po)(hp:AG pp.1)(la:0<=(wl pa).2)(lb:0<=(wl pb).2)(lo:0<=(wl po).2):
  HZ (FJ++(CB++(CC++(FK++vD)))) (OL mt mk t w) (tI [.dict (lM pa pb po pp)]):=by
 refine mZ (j1 (B1 mt mk w pa pb po pp t ht)) λlo1 s1 hz0=>?_;refine mZ (j1 (B2 mt mk w t ht pa pb po pp ha hb ho hp)) λlo2 s2 hz00=>?_;refine mZ (j1 (B3 mt mk w t ht pa pb po pp)) λlo3 s3 hz000=>?_;obtain⟨lo4,s4,d,la',lg,lc,lr,e4,g⟩:=HX (t5 mt hm t ht mk w (lM pa pb po pp) (wl pa) (wl pb) (wl po) (wl pa) (wl pb) (bif mk then pp else AF) (bif mk then [[80]] else []));obtain⟨s',b⟩:=MK ht hL hw rfl (by
  induction mk with
  |false=>exact .inr (.inl rfl)|true=>exact hp) la lb lo g
 refine⟨s',tK.Cy (.base _ _ hz0.2 (tK.Cy (.base _ _ hz00.2 (tK.Cy (.base _ _ hz000.2 (.Bs (sS t (lM pa pb po pp) (.view [(.str [97],tp (wl pa)),(.str [98],tp (wl pb)),(.str [111],tp (wl po))] (tp AF)) (wl pa) (wl pb) (bif mk then pp else AF) (bif mk then [[80]] else [])) rfl (λi=>?_) (tK.Cy b e4))) hz000.1)) hz00.1)) hz0.1⟩;by_cases h16:i=16
 .subst h16;exact .inl (gp.trans gp.symm)
 by_cases h15:i=15
 .subst h15;exact .inr (bQ _ _ (iI h16 gp) (iI h16 gp) (.view λzz zz=>E4))
 .exact .inl ((iI h16 (iI h15 rfl)).trans (iI h16 (iI h15 rfl)).symm)
end
set_option genInjectivity false
section
theorem FY{n:Nat}{a v:V}{lo:Lo}{s s':Mp.St}(h:block (dM P b8) ⟨1000,run eR n⟩ [(34,a)] s=.ok (.ret v,lo) s'):run eR (n+1) 8 [a] s=.ok v s':=by exact nx h rfl
noncomputable def Tp (s:Mp.St) (l:Nat):Prop:=l<s.n/\∃xs:List Int,s.get l=some (.list (xs.map V.int))/\xs.length<=16
structure Dr (l:Nat) (s s':Mp.St):Prop where
 n:s.n<=s'.n
 f:∀i,i<s.n->i≠l->s'.get i=s.get i
 t:Tp s' l
section
variable{n l k:Nat}{s s' s2:Mp.St}{lo:Lo}
theorem Dr.trans(h:Dr l s s')(h':Dr l s' s2):Dr l s s2:=⟨PN h.n h'.n,λi hi hn=>(h'.f i (PZ hi h.n) hn).trans (h.f i hi hn),h'.t⟩
theorem Dr.kp(h:Dr l s s')(k:Kp s' s2):Dr l s s2:=⟨PN h.n k.1,λi hi hn=>(k.2 i (PZ hi h.n)).trans (h.f i hi hn),PZ h.t.1 k.1,h.t.2.imp λzz x=>⟨k.get h.t.1 x.1,x.2⟩⟩
theorem Dr.refl(h:Tp s l):Dr l s s:=⟨P5 _,λzz zz zz=>rfl,h⟩
theorem E5(h:Tp s l):∃(v:Int) (s':Mp.St),run eR (n+1) 8 [.ar l] s=.ok (.int v) s'/\Dr l s s':=by
 obtain⟨hl,xs,g,hx⟩:=h;have tr:=nv g (PY (PN (Qa (P9 ..)) hx) (by decide));induction xs with
 |nil=>exact bW (0) s (FY (cV (fm (mD (eK (ai rfl) tr) aK)))) (.refl ⟨hl,_,g,hx⟩)|cons x xs=>exact⟨x,_,FY (cV (fm (mD (eK (ai rfl) tr) (lJ (ai rfl) g (ew aK) g (Ms (PY (PN (Qa (P9 (as:=x::xs) ..)) hx) (by decide))))))),P5 _,λi zz hn=>iI hn rfl,hl,xs,gp,Ri hx⟩
theorem E6(v:Int)(hk:0<k):∃m:Nat,m<k/\Int.fmod v k=m:=by have hk':=Ro.mpr hk;refine PW (Int.eq_ofNat_of_zero_le (Int.fmod_nonneg_of_pos v hk')) λm hm=>?_;exact ag m (Ro.mp (hm▸Int.fmod_lt_of_pos v hk')) hm
theorem kN(n:Nat)(t8:ao lo 34=some (.ar l))(h:Tp s l)(k:Nat)(hk:0<k):∃(m:Nat) (s':Mp.St),m<k/\dE P (.dX .vV (.call 8 [.vr 34]) (.int k)) ⟨1000,run eR (n+1)⟩ lo s=.ok (.int m) s'/\Dr l s s':=by refine a8 (E5 (n:=n) h) λv s' e d=>?_;refine PW (E6 v hk) λm hz0=>?_;exact bQ m s' hz0.1 (hz0.2▸e9 (gI (ew (ai t8)) e) aK (y7 (Ro.mpr hk))) d
theorem MM{C:Nat->Prop}(h0:C 0)(h1:C 1):∀t,t<2->C t
 |0,_=>h0|1,_=>h1|n+2,h=>absurd h (Q4 (Q1 ..))
theorem MN{C:Nat->Prop}(h0:C 0)(h1:C 1)(h2:C 2):∀t,t<3->C t
 |0,_=>h0|1,_=>h1|2,_=>h2|n+3,h=>absurd h (Q4 (Q1 ..))
theorem KZ(t8:ao lo 34=some (.ar l))(h:Tp s l):∃mt s',(mt=qA\/mt=Dq)/\dS P (nS CA 1) mv lo s=.ok (.next,a9 lo 62 (.str mt)) s'/\Dr l s s':=by have k:=Dr.kp (.refl h) (Kp.new s (.list [.str qA,.str Dq]));refine aw (kN 98 t8 k.t 2 (by decide)) λm s' m1 e d=>?_;have g:=(d.f _ (P1 _) (Nat.ne_of_gt h.1)).trans gn;refine PW (MM (C:=λm=>∃mt,(mt=qA\/mt=Dq)/\[V.str qA,.str Dq][m]?=some (.str mt)) (ag _ (.inl rfl) rfl) (ag _ (.inr rfl) rfl) m m1) λmt hz0=>?_;exact bQ mt s' hz0.1 (bZ (bw (gH (cx aU aU)) e (iC g (kI hz0.2 (P4 rfl))))) (k.trans d)
theorem K1{m:Nat}(hm:m<16)(l63:ao lo 63=some (.int m)):∃t:Nat,t<4/\dS P (nS CA 5) mv lo s=.ok (.next,a9 lo 65 (.int t)) s:=
 ag (m/4) (Nat.div_lt_of_lt_mul hm) (bZ (e9 (ai l63) aK (CH (k:=4) rfl)))
end
end
set_option genInjectivity false
section
theorem K2{n:Nat}{a v:V}{lo:Lo}{s s':Mp.St}(h:block (dM P b9) ⟨1000,run eR n⟩ [(34,a)] s=.ok (.ret v,lo) s'):run eR (n+1) 9 [a] s=.ok v s':=by rw[<-FH] at h⊢;exact nx h rfl
noncomputable abbrev H0:List V:=[.str yW,.str pE,.str tM]
theorem H2{n:Nat}{v:V}{lo:Lo}{s s':Mp.St}(h:block (dM P b7) ⟨1000,run eR n⟩ [] s=.ok (.ret v,lo) s'):run eR (n+1) 7 [] s=.ok v s':=by
 have e:run eR (n+1) 7 [] s=(bb (block (dM P b7) ⟨1000,run eR n⟩ [] s)).bind λr s=>match r.1 with|.ret v=>.ok v s|_=>.ok .none s:=by rw[<-FH];rfl
 exact e.trans (nx h rfl)
theorem K4(n:Nat)(s:Mp.St):run eR (n+1) 7 [] s=.ok (.ar s.n) (s.new (.list H0)):=H2 (cV (fm (gH (dP aU (dP aU (ew aU))))))
noncomputable def FZ:List Mp.S:=Lx (nS b9 1)
noncomputable def K5 (W:List (V×V)) (k:List Nat):Option WL->List (V×V)
 |none=>W|some p=>bD W (.str k) (tp p)
structure WS (l w:Nat) (lo:Lo) (s:Mp.St) (W:List (V×V)) (j:Nat):Prop where
 t8:ao lo 34=some (.ar l)
 zl:ao lo 35=some (.ar w)
 t:Tp s l
 g:s.get w=some (.dict W)
 hw:w<s.n
 ne:w≠l
 hj:W.length<=j
noncomputable def E7 (q:Option WL):Prop:=∀p,q=some p->AG p.1/\0<=p.2
noncomputable def Pr (k:List Nat) (q:Option WL):Prop:=k=[80]->∃p,q=some p
section
variable{l w n j:Nat}{lo:Lo}{s s':Mp.St}{W:List (V×V)}{k:List Nat}{v:V}
theorem WS.up(h:WS l w lo s W j):WS l w (a9 lo 36 v) s W j:={h with t8:=lm h.t8 rfl,zl:=lm h.zl rfl}
noncomputable def Dw (l w:Nat) (s s':Mp.St):Prop:=s.n<=s'.n/\∀i,i<s.n->i≠l->i≠w->s'.get i=s.get i
theorem H3(m:Nat):∃way,AG way/\H0[m%3]?=some (.str way):=
 MN (C:=λm=>∃way,AG way/\H0[m]?=some (.str way)) (ag _ (.inl rfl) rfl) (ag _ (.inr (.inl rfl)) rfl) (ag _ (.inr (.inr rfl)) rfl) _ (Nat.mod_lt m (RK 2))
noncomputable def MO (n l w:Nat) (lo:Lo) (s:Mp.St) (W:List (V×V)) (k:List Nat) (j:Nat):Prop:=∃q lo' s',block (dM P FZ) ⟨1000,run eR (n+1)⟩ lo s=.ok (.next,lo') s'/\WS l w lo' s' (K5 W k q) (j+1)/\Dw l w s s'/\E7 q/\Pr k q
theorem zt(h:WS l w lo s W j)(hj:j<1000)(l36:ao lo 36=some (.str k)):MO n l w lo s W k j:=by
 refine aw (kN n h.t8 h.t 10 (by decide)) λm s1 m1 e d=>?_;have g1:=(d.f w h.hw h.ne).trans h.g;have hw:=PZ h.hw d.n;have tq:ea (dE P (.or [.cmp .lt (.vr 37) (.int 9),.cmp .eq (.vr 36) (.str [80])])) ⟨1000,run eR (n+1)⟩ (a9 lo 37 (.int m)) s1=.ok (Le (gM m 9) (hJ k [80])) s1:=by
  cases hm:gM m 9 with
  |true=>exact eK (pv (dU (ai lk) aK (congrArg some hm)) rfl rfl) rfl|false=>exact eK (pv (dU (ai lk) aK (congrArg some hm)) rfl (dU (ai (lm l36 rfl)) aU rfl)) rfl
 refine cy (Le (gM m 9) (hJ k [80])) (λhb=>?_) λhb=>?_
 .rw[hb] at tq;exact⟨none,_,s1,au (bZ e) (au (bY tq bg) bg),⟨lm h.t8 rfl,lm h.zl rfl,d.t,g1,hw,h.ne,RI h.hj⟩,⟨d.n,λi hi h1 zz=>d.f i hi h1⟩,nofun,λhk=>by rw[hk] at hb;revert hb;cases gM m 9<;>exact nofun⟩
 .rw[hb] at tq;refine PW (H3 m) λway hz0=>?_;exact⟨some (way,((m/3:Nat):Int)),_,_,au (bZ e) (au (jz tq (au (bd (fS (cx (bw (gI vw (K4 n s1)) (e9 (ai lk) aK (y7 (by decide))) (iC gn (Int.ofNat_fmod m 3▸kI hz0.2 (by decide)))) (e9 (ai lk) aK (CH (k:=3) rfl)))) (bd (bd (ai (lm h.zl rfl)) (bd (ai (lm l36 rfl)) (bd (ER (t6 hw g1) rfl (PY h.hj hj)) rfl))) rfl)) bg)) bg),
   ⟨lm h.t8 rfl,lm h.zl rfl,⟨Qy d.t.1,d.t.2.imp λzz x=>⟨iI h.ne.symm (t6 d.t.1 x.1),x.2⟩⟩,gp,Qy hw,h.ne,PN (yr _ _ _) (QQ h.hj)⟩,
   ⟨RI d.n,λi hi h1 h2=>iI h2 (t6 (PZ hi d.n) (d.f i hi h1))⟩,λp hp=>by refine OY hp ?_;exact⟨hz0.1,QE _⟩,λzz=>⟨_,rfl⟩⟩
theorem Dw.get(h:Dw l w s s'){i:Nat}{o:Option O}(hi:i<s.n)(h1:i≠l)(h2:i≠w)(e:s.get i=o):s'.get i=o:=(h.2 i hi h1 h2).trans e
theorem E8{q1 q2 q3:Option WL}{pp:WL}:K5 (K5 (K5 (K5 [] [97] q1) [98] q2) [111] q3) [80] (some pp)=lM q1 q2 q3 pp:=by induction q1<;>induction q2<;>induction q3<;>rfl
theorem E7.le{q:Option WL}(h:E7 q):0<=(wl q).2:=by
 induction q with
 |none=>exact Int.le_refl _|some p=>exact(h p rfl).2
noncomputable abbrev OQ:List V:=[.str [97],.str [98],.str [111],.str [80]]
noncomputable def MP (n l w r:Nat) (lo:Lo) (s:Mp.St):Prop:=∃q1 q2 q3 pp lo' s',Mp.s.iT (t.vr 36) (block (dM P FZ)) (block []) ⟨1000,run eR (n+1)⟩ 1000 (.list r 0) lo s=.ok (.next,lo') s'/\WS l w lo' s' (lM q1 q2 q3 pp) 4/\E7 q1/\E7 q2/\E7 q3/\AG pp.1/\s.n<=s'.n
theorem K6{r:Nat}(h:WS l w lo s [] 0)(hr:r<s.n)(g:s.get r=some (.list OQ))(h1:r≠l)(h2:r≠w):MP n l w r lo s:=by refine fZ (zt (n:=n) (h.up (v:=.str [97])) (by decide) lk) λq1 lo1 s1 b1 w1 d1 o1 zz=>?_;have g1:=d1.get hr h1 h2 g;have r1:=PZ hr d1.1;refine fZ (zt (n:=n) (w1.up (v:=.str [98])) (by decide) lk) λq2 lo2 s2 b2 w2 d2 o2 zz=>?_;have g2:=d2.get r1 h1 h2 g1;have r2:=PZ r1 d2.1;refine fZ (zt (n:=n) (w2.up (v:=.str [111])) (by decide) lk) λq3 lo3 s3 b3 w3 d3 o3 zz=>?_;have g3:=d3.get r2 h1 h2 g2;have r3:=PZ r2 d3.1;refine fZ (zt (n:=n) (w3.up (v:=.str [80])) (by decide) lk) λq4 lo4 s4 b4 w4 d4 o4 k4=>?_;obtain⟨pp,rfl⟩:=k4 rfl;exact⟨q1,q2,q3,pp,lo4,s4,lP (lO g rfl) rfl b1 (lP (lO g1 rfl) rfl b2 (lP (lO g2 rfl) rfl b3 (lP (lO g3 rfl) rfl b4 (FR (xN (d4.get r3 h1 h2 g3) (by decide)) rfl)))),E8▸w4,o1,o2,o3,(o4 pp rfl).1,PN d1.1 (PN d2.1 (PN d3.1 d4.1))⟩
structure Wt (pa pb po:Option WL) (pp:WL) (l w:Nat) (s':Mp.St):Prop where
 a:E7 pa
 b:E7 pb
 o:E7 po
 p:AG pp.1
 t:Tp s' l
 g:s'.get w=some (.dict (lM pa pb po pp))
 hw:w<s'.n
 ne:w≠l
noncomputable def Pu (l:Nat) (lo:Lo) (s:Mp.St):Prop:=∃pa pb po pp w s',dS P (nS CA 2) mv lo s=.ok (.next,a9 lo 35 (.ar w)) s'/\Wt pa pb po pp l w s'
theorem K7(t8:ao lo 34=some (.ar l))(h:Tp s l):Pu l lo s:=by obtain⟨hl,xs,hx⟩:=h;have l1:=Qw (Qy hl);refine IB (K6 (n:=97) (l:=l) (w:=s.n) (r:=s.n+1) (lo:=a9 [(34,.ar l)] 35 (.ar s.n)) (s:=(s.new (.dict [])).new (.list OQ)) ⟨rfl,rfl,⟨Qy (Qy hl),xs,t6 (Qy hl) (t6 hl hx.1),hx.2⟩,t6 (P1 _) gn,Qy (P1 _),Nat.ne_of_gt hl,P5 _⟩ (P1 _) gn l1.symm (Nat.succ_ne_self _)) λq1 q2 q3 pp lo' s' e w o1 o2 o3 o4 hn=>?_;exact⟨q1,q2,q3,pp,s.n,s',bZ (gI (ew (ai t8)) (K2 (n:=98) (au (bZ (tR y6 rfl)) (au (CJ (mh (gH (dP aU (dP aU (cx aU aU)))) (ny gn)) (congrArg bb e)) (cV (fm (ai w.zl))))))),o1,o2,o3,o4,w.t,w.g,w.hw,w.ne⟩
end
end
set_option genInjectivity false
section
theorem H4{n:Nat}{a b v:V}{lo:Lo}{s s':Mp.St}(h:block (dM P Ka) ⟨1000,run eR n⟩ [(34,a),(40,b)] s=.ok (.ret v,lo) s'):run eR (n+1) 11 [a,b] s=.ok v s':=by rw[<-FH] at h⊢;exact nx h rfl
noncomputable def OS:Mp.E:=ON (nS Ka 2)
noncomputable def oB:List Mp.S:=Lx (nS Ka 2)
noncomputable abbrev LL (x:Nat):Prop:=x=97\/x=98\/x=111\/x=99
structure WI (l:Nat) (b:Bool) (lo:Lo) (s:Mp.St) (w:List Nat) (d:Int):Prop where
 t8:ao lo 34=some (.ar l)
 EY:ao lo 40=some (.bool b)
 qB:ao lo 41=some (.str w)
 OT:ao lo 42=some (.int d)
 t:Tp s l
 d0:0<=d
 d9:d<=w.length
 hL:∀x∈w,LL x
section
variable{l:Nat}{b:Bool}{lo:Lo}{s:Mp.St}{w:List Nat}{d:Int}{n:Nat}
noncomputable def mx (d:Int):Int:=@PS (λzz=>Int) 0 d (gM 0 d)
theorem K8{k:Int}(h:d<=k)(hk:0<=k):0<=mx d/\mx d<=k:=by
 unfold mx;cases e:gM 0 d with
 |true=>exact⟨Int.le_of_lt ((de _ _).mp e),h⟩|false=>exact⟨Int.le_refl _,hk⟩
noncomputable def OU:List (V×V):=[(.str [111],.int 1),(.str [99],.int (-1))]
inductive LO (m:Nat):Prop
 |mk (x:Nat) (δ:Int):LL x->([97,97,98,98,111,99]:List Nat)[m]?=some x->δ<=1->(aE OU (.str [x])).getD (.int 0)=.int δ->LO m
theorem MQ{C:Nat->Prop}(h0:C 0)(h1:C 1)(h2:C 2)(h3:C 3)(h4:C 4)(h5:C 5):∀t,t<6->C t
 |0,_=>h0|1,_=>h1|2,_=>h2|3,_=>h3|4,_=>h4|5,_=>h5|n+6,h=>absurd h (Q4 (Q1 ..))
theorem K9:∀m,m<6->LO m:=
 MQ ⟨97,0,.inl rfl,rfl,by decide,rfl⟩ ⟨97,0,.inl rfl,rfl,by decide,rfl⟩ ⟨98,0,.inr (.inl rfl),rfl,by decide,rfl⟩ ⟨98,0,.inr (.inl rfl),rfl,by decide,rfl⟩ ⟨111,1,.inr (.inr (.inl rfl)),rfl,by decide,rfl⟩ ⟨99,-1,.inr (.inr (.inr rfl)),rfl,by decide,rfl⟩
inductive WO (n l:Nat) (b:Bool) (lo:Lo) (s:Mp.St) (k:Nat):Prop
 |mk (lo':Lo) (s':Mp.St) (w:List Nat) (d:Int):block (dM P oB) ⟨1000,run eR (n+1)⟩ lo s=.ok (.next,lo') s'->WI l b lo' s' w d->w.length=k+1->Dr l s s'->WO n l b lo s k
theorem La(h:WI l b lo s w d)(hw:w.length<9):WO n l b lo s w.length:=by
 refine aw (kN n h.t8 h.t 6 (by decide)) λm s1 m1 e dr=>?_;obtain⟨x,δ,hx,hat,hδ,dl⟩:=K9 m m1;have k:=dr.kp (Kp.new _ (.dict OU));have mz:=K8 (d:=d+δ) (k:=w.length+1) (Int.add_le_add h.d9 hδ) (Int.le_add_one (QE _));exact⟨_,_,w++[x],mx (d+δ),au (bZ (bw aU e (xK hat (by decide)))) (au (bZ (Mr aK (e9 (ai (lm h.OT rfl)) (xJ (tR (ji aU aK (ji aU (hG aK) y6)) rfl) gn (cx (ai lk) aK) gn ((Km rfl).trans (congrArg (λz=>R.ok z _) dl))) rfl) rfl)) (au (bZ (e9 (ai (lm (lm h.qB rfl) rfl)) (ai (lm lk rfl)) (CI (PY hw (by decide))))) bg)),
  ⟨lm (lm (lm h.t8 rfl) rfl) rfl,lm (lm (lm h.EY rfl) rfl) rfl,lk,lm lk rfl,k.t,mz.1,by rw[PH];exact mz.2,jj h.hL hx⟩,PH ..,k⟩
inductive WE (n l:Nat) (b:Bool) (lo:Lo) (s:Mp.St) (f:Nat):Prop
 |mk (lo':Lo) (s':Mp.St) (w:List Nat) (d:Int):Mp.s.v7 (dE P OS) (block (dM P oB)) (block []) ⟨1000,run eR (n+1)⟩ f lo s=.ok (.next,lo') s'->WI l b lo' s' w d->w.length<=9->Dr l s s'->WE n l b lo s f
theorem F1{c:Ctx}(h:WI l b lo s w d)(hw:w.length<=9):∃t,ea (dE P OS) c lo s=.ok t s/\(t=true->w.length<9):=by
 obtain⟨_,xs,g,hx⟩:=h.t;have tr:=nv g (PY (PN (Qa (P9 ..)) hx) (by decide));clear hx g left;induction xs with
 |nil=>exact ag false (eK (iB (ai h.t8) tr rfl) tr) ft|cons y ys=>exact ag _ (eK (iB (ai h.t8) tr (dU (vF (ai h.qB) (xM rfl (PY hw (by decide)))) aK rfl)) rfl) (λe=>Ro.mp ((de _ _).mp e))
theorem F2{j:Nat}:∀(m:Nat) {lo:Lo} {s:Mp.St} {w:List Nat} {d:Int},WI l b lo s w d->w.length+m=9->WE n l b lo s (j+(m+1))
 |0=>λh hm=>by
  refine aa (F1 (c:=⟨1000,run eR (n+1)⟩) h (Qa hm)) λt e z=>?_;induction t with
  |true=>exact absurd hm (Qw (z rfl))|false=>exact⟨_,_,_,_,CQ e rfl,h,Qa hm,.refl h.t⟩
 |m+1=>λh hm=>by
  have hw:=PN (Qz ..) (Qa hm);refine aa (F1 (c:=⟨1000,run eR (n+1)⟩) h hw) λt e z=>?_;induction t with
  |false=>exact⟨_,_,_,_,CQ e rfl,h,hw,.refl h.t⟩|true=>obtain⟨lo1,s1,w1,d1,b1,h1,l1,r1⟩:=La (n:=n) h (z rfl);obtain⟨lo2,s2,w2,d2,b2,h2,l2,r2⟩:=F2 (j:=j) m h1 (l1▸(Nat.succ_add _ m).trans hm);exact⟨lo2,s2,w2,d2,Ks e b1 b2,h2,l2,r1.trans r2⟩
theorem ic:∀k,pW [99] k=RE k 99
 |0=>rfl|k+1=>congrArg (99:: ·) (ic k)
theorem H5{k:Nat}(h:k<1000):fX .mul (.str [99]) (.int k) s=.ok (.str (RE k 99)) s:=by refine(?_:(match aP (small k) (aN (1*k)) with|true=>R.ok (V.str (pW [99] k)) s|false=>_)=_);rw[fF h,Nat.one_mul,show aN k=true from QR.mpr (PN h (by decide)),ic];rfl
inductive WF (l:Nat) (lo:Lo) (s:Mp.St):Prop
 |mk (w:List Nat) (s':Mp.St):dS P (nS CA 7) mv lo s=.ok (.next,a9 lo 41 (.str w)) s'->(∀x∈w,LL x)->w.length<=40->Dr l s s'->WF l lo s
theorem Lb(t8:ao lo 34=some (.ar l))(EY:ao lo 40=some (.bool b))(h:Tp s l):WF l lo s:=by
 obtain⟨lo1,s1,w1,d1,e,h1,hw,k⟩:=F2 (n:=97) (j:=990) 9 (lo:=a9 (a9 [(34,.ar l),(40,.bool b)] 41 (.str [])) 42 (.int 0)) ⟨rfl,rfl,rfl,rfl,h,Int.le_refl _,Int.le_refl _,nofun⟩ rfl;refine PW (Int.eq_ofNat_of_zero_le h1.d0) λd z1=>?_;obtain rfl:=z1;have hd:=Int.ofNat_le.mp h1.d9;have dY:∀k:Nat,k<=w1.length->dE P (.ite (.vr 40) (.vr 42) (.int 0)) ⟨1000,run eR 98⟩ lo1 s1=.ok (.int k) s1->WF l lo s:=λi hi ei=>
  ⟨w1++RE i 99,s1,bZ (gI (cx (ai t8) (ai EY)) (H4 (n:=98) (au (bZ aU) (au (bZ aK) (au (ES (congrArg bb e)) (cV (fm (e9 (ai h1.qB) (e9 aU ei (H5 (PY (PN hi hw) (by decide)))) (CI (by rw[List.length_replicate];exact PY (Nat.add_le_add hw (PN hi hw)) (by decide)))))))))))
   ,λx hx=>(QO.mp hx).elim (h1.hL x) λe=>.inr (.inr (.inr (List.eq_of_mem_replicate e))),by rw[PH,List.length_replicate];exact PN (Nat.add_le_add hw (PN hi hw)) (by decide),k⟩
 clear e;induction b with
 |true=>exact dY d hd (mD (eK (ai h1.EY) rfl) (ai h1.OT))|false=>exact dY 0 (QX _) (mD (eK (ai h1.EY) rfl) aK)
end
end
set_option genInjectivity false
section
inductive A0 (lo:Lo) (s:Mp.St):Prop
 |mk (l:Nat) (s':Mp.St):dS P (nS CA 0) mv lo s=.ok (.next,a9 lo 34 (.ar l)) s'->Tp s' l->A0 lo s
theorem Lc{lo:Lo}{s:Mp.St}{zs:List Int}(hi:zs.length<=63)(l60:ao lo 60=some (.cX (zs.map V.int))):A0 lo s:=by have lt:(zs.take (min 16 (zs.map V.int).length)).length<=16:=PN (List.length_take_le ..) (Nat.min_le_left ..);have lt9:=PY lt (by decide:16<1000);refine PW (Qp (Nat.succ_le_of_lt lt9)) λn hn=>?_;have x:=CP (c:=mv) (n:=n) (s:=s.new (.list ((zs.map V.int).take (min 16 (zs.map V.int).length)))) (g:=V.int) (f:=λi=>V.int (Int.fmod i 720720)) (e1:=dE P (.dX .vV (.vr 61) (.int 720720))) (xs:=[61]) (gn.trans (by rw[List.map_take])) lt9 (λi lo=>ag _ rfl (e9 (ai lk) aK (y7 (by decide)))) _ 0 lo (Nat.zero_add _);rw[<-hn] at x;exact⟨_,_,bZ (tO (mh (eS (ai l60) bj aK bj (Pp (PY (PN (Qa (P9 ..)) hi) (by decide)) (HG (k:=16)))) (ny gn)) x),P1 _,(zs.take (min 16 (zs.map V.int).length)).map (Int.fmod · 720720),gn.trans (by rw[List.map_map];rfl),(P9 ..).symm▸lt⟩
theorem ob{α β:Type}{o:Option α}{a:α}{f:α->Option β}{q:Option β}(h:o=some a)(e:f a=q):o.bind f=q:=h▸e
theorem om{α β:Type}{o:Option α}{a:α}{f:α->β}{q:Option β}(h:o=some a)(e:some (f a)=q):o.map f=q:=h▸e
theorem lS{α β:Type}{f:α->Option β}{a:α}{as:List α}{b:β}{bs:List β}(h:f a=some b)(h2:qw f as=some bs):qw f (a::as)=some (b::bs):=ob h (om h2 rfl)
theorem Dh{w:Nat}:vy w [w]=some 0:=by refine(?_:@PS (λzz=>Option Nat) _ (some 0) (P8 w w)=_);rw[RL]
theorem E9(zs:List Int)(hi:zs.length<=63):HZ EI [(60,.cX (zs.map V.int))] ⟨.nil,0⟩:=by obtain⟨l,s0,e0,t0⟩:=Lc (lo:=[(60,.cX (zs.map V.int))]) (s:=⟨.nil,0⟩) hi rfl;refine aw (KZ (lo:=a9 [(60,.cX (zs.map V.int))] 34 (.ar l)) lk t0) λmt s1 hm e1 d1=>?_;refine Iz (K7 (lo:=a9 (a9 [(60,.cX (zs.map V.int))] 34 (.ar l)) 62 (.str mt)) (lm lk rfl) d1.t) λpa pb po pp w s2 e2 W=>?_;refine aw (kN (lo:=a9 (a9 (a9 [(60,.cX (zs.map V.int))] 34 (.ar l)) 62 (.str mt)) 35 (.ar w)) 98 (lm (lm lk rfl) rfl) W.t 16 (by decide)) λm s3 m3 e3 d3=>?_;refine aa (K1 (s:=s3) (lo:=a9 (a9 (a9 (a9 (a9 [(60,.cX (zs.map V.int))] 34 (.ar l)) 62 (.str mt)) 35 (.ar w)) 63 (.int m)) 64 (.bool (gM 0 (Int.fmod m 4)))) m3 (lm lk rfl)) λt ht e5=>?_;refine aw (kN (lo:=a9 (a9 (a9 (a9 (a9 (a9 [(60,.cX (zs.map V.int))] 34 (.ar l)) 62 (.str mt)) 35 (.ar w)) 63 (.int m)) 64 (.bool (gM 0 (Int.fmod m 4)))) 65 (.int t)) 98 (lm (lm (lm (lm (lm lk rfl) rfl) rfl) rfl) rfl) d3.t 3 (by decide)) λm6 s6 zz e6 d6=>?_;obtain⟨wd,s7,e7,hL,hw,d7⟩:=Lb (lo:=a9 (a9 (a9 (a9 (a9 (a9 (a9 [(60,.cX (zs.map V.int))] 34 (.ar l)) 62 (.str mt)) 35 (.ar w)) 63 (.int m)) 64 (.bool (gM 0 (Int.fmod m 4)))) 65 (.int t)) 40 (.bool (gM m6 2))) (lm (lm (lm (lm (lm (lm lk rfl) rfl) rfl) rfl) rfl) rfl) lk d6.t;refine PW (ML hm ht (gM 0 (Int.fmod m 4)) hL hw (λq h=>(W.a q h).1) (λq h=>(W.b q h).1) (λq h=>(W.o q h).1) W.p W.a.le W.b.le W.o.le) λs' b=>?_;have d:=(d3.trans d6).trans d7;exact⟨s',.next e0 (.next e1 (.next e2 (.next (bZ e3) (.next (bZ (dU (e9 (ai lk) aK (y7 (by decide))) aK rfl)) (.next e5 (.next (bZ (dU e6 aK rfl)) (.next e7 (.base [62,35,64,65,41] [w] (ob rfl (ob (lS (ob ((d.f w W.hw W.ne).trans W.g) (by clear d d7 e7 d6 e6 e5 d3 e3 W e2 d1 e1 t0 e0 hi;induction pa<;>induction pb<;>induction po<;>rfl)) rfl) (om (lS (om (ob (lm (lm (lm (lm (lm (lm lk rfl) rfl) rfl) rfl) rfl) rfl) rfl) rfl) (lS (om (ob (lm (lm (lm (lm (lm lk rfl) rfl) rfl) rfl) rfl) (om Dh rfl)) rfl) (lS (om (ob (lm (lm (lm lk rfl) rfl) rfl) rfl) rfl) (lS (om (ob (lm (lm lk rfl) rfl) rfl) rfl) (lS (om (ob lk rfl) rfl) rfl))))) rfl))) b))))))))⟩
end
open Mp PySem PySem.W PyProof.Rows
section
theorem Pw{h:Heap}{c P:Addr}(q:CodeHd h c P):isCodeTable h P:=
 q.elim λo q=>q.elim λvs q=>q.elim λzz q=>q.elim λzz q=>q.elim λzz q=>q.elim λzz q=>q.elim λzz q=>q.elim λzz q=>q.elim λzz q=>qL c o vs q.1 q.2.1 q.2.2.1 q.2.2.2.1
theorem Fb{t:PT}{prog:Program}{w:World}{K:Frag}{mg mb:Str->Option Value}{s sh:Shared}{g:Gh}{st:Mp.St}(hK:K.In s.heap)(hl:j0 t K=true)(r:aD (t.si P prog w K mg mb s) g st sh):OldK s.heap sh.heap:=by
 have c9:∀b∈t.lK.map (·.fC),s.heap.get? b=some {cls:=.none,data:=.fields #[]}/\isCodeTable s.heap b:=λb m=>by refine⟨nu hK hl b m,?_⟩;refine aa (QB.mp m) λe he z2=>?_;exact z2▸Pw (codeHd_of_K hK (aj (ab (gE hl he))))
 refine⟨λb o hb=>?_,λb o hb=>?_⟩
 .by_cases hm:b∈t.lK.map (·.fC)
  .refine dw (c9 b hm) λh1 h2=>?_;rw[h1] at hb;refine(PD hb)▸?_;refine mZ (r.fC b hm) λop ps hz0=>?_;refine .inr (.inl ⟨h2,rfl,#[],ps,rfl,?_⟩);rw[hz0.1,hz0.2.1];simp
  .exact .inl (r.base b o hb hm)
 .by_cases hm:b∈t.lK.map (·.fC)
  .refine mZ (r.fC b hm) λop ps hz00=>?_;exact⟨_,hz00.1⟩
  .exact⟨o,r.base b o hb hm⟩
theorem Fc{K:Frag}{h:Heap}(hK:K.In h)(c:(K.lookup sysModules).isSome=true):∃o,h.get? sysModules=some o:=by
 cases e:K.lookup sysModules with
 |none=>rw[e] at c;exact ft c|some o=>exact⟨_,hK _ _ e⟩
theorem Fd{S:SI}{g:Gh}{h:Heap}{vs:List Value}{zs:List Int}(x:IntsAre vs zs):aI S g h (zs.map V.int) vs:=by
 induction x with
 |nil=>unfold aI;rfl|cons n t _ ih=>exact aI.cons (by unfold VR;exact ag t trivial rfl) ih
theorem MR{prog:Program}{w:World}{K:Frag}{mg mb:Str->Option Value}{s:Shared}{p:Program}{loose:List Str}{mean:ExcName->Option Value}(hK:K.In s.heap)(T:Top p loose mean mg mb s.heap)(hl:j0 pt K=true)(hsys:∃o,s.heap.get? sysModules=some o)
  (hc:kG pt.ct P pt.fz pt.cS (pt.lK.map (·.mark)) pt.fns pt.cls pt.dfs pt.lds (xG (pt.lK.map (·.fC)) K) (Ii K)=true) {vs:List Value} {zs:List Int} (hL:s.heap.IsList 491 vs.toArray) (hi:IntsAre vs zs) (h63:zs.length<=63) (hg:AllBare s.gens) {c:ClaimW} {cl:Str->Option Addr} {mn:ExcName->Option Value} {args:List WData}
  (hr:∀cls,c.raises args cls=false) (hp:c.post args (.bool true) args=true):
  wpAny (model prog w) callerA (P6 (.ref 490) [.ref 491]) (λv s'=>GoodWG c cl mn args s (.ok (.ret v)) s') (λe s'=>GoodWG c cl mn args s (.error e) s') s:=by
 refine PW (E9 zs h63) λs' b=>?_;have b':tK P ⟨1000,run (fg P pt.dfs pt.lds) 99⟩ Lv.body [(60,.cX (zs.map V.int))] ⟨.nil,0⟩ (.bool true) s':=by
  have e:mv=⟨1000,run (fg P pt.dfs pt.lds) 99⟩:=by refine(?_:(⟨1000,Mp.run eR 99⟩:Mp.Ctx)=⟨1000,Mp.run (fg P dfs lds) 99⟩);rw[FH]
  exact b
 refine Cz (t:=pt) (P:=P) (f:=15) (fa:=490) (d:=Lv) (vs:=[.cX (zs.map V.int)]) (ys:=[.ref 491]) hK T (by decide+kernel) rfl hl hsys (by decide+kernel) (by decide+kernel) (by decide+kernel) rfl hc rfl rfl ?_ (lo:=[(60,.cX (zs.map V.int))]) rfl b' λg' sh' y e r q=>?_
 .refine aI.cons ?_ aI.nil;exact cZ (491) vs.toArray rfl (show(491:Addr)∉pt.lK.map (·.fC) by decide+kernel) hL (Fd hi)
 .have hy:=q.nR;refine hy▸?_;refine Ia (.inl ⟨_,.bool true,[],rfl,hr,ReadsW.bool true,hp,λzz=>⟨List.nodup_nil,λzz hm=>(nomatch hm)⟩⟩) (Fb hK hl r) r.os ?_;rw[r.gens];exact hg
end
end
end L3
section
open PySem Mp PySem.W PyProof.Rows
noncomputable abbrev HK:=K3.kf
noncomputable abbrev tb:List Addr:=[391,398]
theorem q0(p:Params):(j0 L3.pt (HK p)&&((HK p).lookup sysModules).isSome)=true:=by kernel_rfl
theorem q1(p:Params):kG L3.pt.ct L3.P L3.pt.fz L3.pt.cS (L3.pt.lK.map (·.mark)) L3.pt.fns L3.pt.cls L3.pt.dfs L3.pt.lds (xG (L3.pt.lK.map (·.fC)) (HK p)) (Ii (HK p))=true:=by kernel_rfl
end
section
open Mp PySem PySem.W PySem.W.X PySem.W.ZRun PyProof.Rows
noncomputable def K3.dk:=defOf K3.q (sj "law")
theorem K3.Px:K3.dk.isSome=true:=by kernel_rfl
@[irreducible] noncomputable def K3.dl:=K3.dk.get K3.Px
theorem K3.Py:defOf K3.q (sj "law")=some (K3.dl.1,K3.dl.2):=by kernel_rfl
theorem K3.Pz:RG.theDef (sj "law")=some (K3.dl.1.params,K3.dl.1.body,K3.dl.1.scope):=by kernel_rfl
theorem K3.PA:kwWritten? K3.dl.1.params.kwonlyargs K3.dl.1.params.kw_defaults=some K3.dl.2:=by kernel_rfl
theorem K3.PB:K3.dl.1.name=sj "law":=by kernel_rfl
end
end Internal
open Internal
open Mp PySem PySem.W PySem.W.X PySem.W.ZRun PyProof.Rows
theorem PySem.Challenge.cw_te0072_03_holds : PySem.Challenge.rw_te0072_03.Holds := by
 w_on
 refine holds_law LA.ws λsaid=>?_;refine holds_openX (q:=K3.q) (loose:=K3.loose) (Xt:=λs=>xlAt K3.q [] s&&recOk [] s) (XP:=XL K3.q []) (Yf:=obsZ K3.ka) (Ya:=valZ K3.kf 491 997) (N:=6932) (d:=K3.dl.1) (kwd:=K3.dl.2) K3.f1 (λs e=>xl_of s (RH.mp e).1) XL.keeps K3.Py K3.Pz K3.PA (λs e=>recFacts_of (RH.mp e).2) (by rfl) said (by decide+kernel) ⟨rfl,rfl,rfl,rfl,rfl,by decide+kernel⟩ ?hw ?hc
 case hw=>w_witness2
 case hc=>
  intro w s₀ s₁ mg mb G y fa o pm cd doc dV kV ho hd hcd hD hmg hg args vals as L hpre hlay hrd hwl hlo;have hka:∀P,K3.ka=(K3.kf P).map (·.1):=λzz=>by kernel_rfl
  obtain⟨_,KX0,ZN,ZT⟩:=z_facts (K:=K3.kf) hka y;have KX:(K3.kf w.params).In s₁.heap:=InK.keeps w _ _ KX0 L.keeps;clear KX0 hka y ho hd hcd hD;refine Ground.open G ?_;intro T B D TE TW;clear B D TE TW
  wrow_args hpre hlay hrd hwl hlo
  obtain⟨hat,hsz⟩:=script_at L;rw[ZN] at hat hsz;subst hat
  all_lens
  have hf:=xH (t:=L3.pt) (P:=L3.P) (prog:=PySem.Challenge.rw_te0072_03.row.toRowW.prog) (w:=w) KX T (sj "law") (.ref 490) (by kernel_rfl);have hf:(match mg (sj "law") with|some v=>some v|none=>mb (sj "law"))=some (QH 490):=hf;have hmg:mg (sj "law")=some (.ref fa):=(congrArg mg K3.PB).symm.trans hmg;rw[hmg] at hf;obtain rfl:fa=490:=Qq (PD (show some (QH fa)=some (QH 490) from hf));clear hf hmg G;refine L3.MR KX T (aj (q0 _)) (L3.Fc KX (ab (q0 _))) (q1 _) (by assumption) (by assumption) (by omega) ?_ (λzz=>rfl) ?_
  .first|exact AllBare.empty|exact .of_eq rfl|exact allBare_of _ rfl|exact .of_eq (by assumption)
  .first|rfl|wrow_post
