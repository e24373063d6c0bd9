import PyProof.Rows.All
import Wide.All
import OpenK.AllK
import Wide.FinOn
import Lean
import PySem.Challenge.RW_al0018_01
set_option autoImplicit true
set_option genInjectivity false
set_option genSizeOf false
set_option genSizeOfSpec false
set_option maxHeartbeats 4000000
set_option maxRecDepth 100000
set_option Elab.async false
namespace qo.Hd
open PySem PySem.W PyProof.Rows PySem.Calls
noncomputable abbrev pg:Program:=PySem.Challenge.rw_al0018_01.row.toRowW.1
noncomputable def vw:Program:={pg with main:={pg.main with body:=[0,2,3,4,5,6,7,8,9,10,11,13,14,15,16].filterMap fun i=>pg.main.body[i]? }}
noncomputable def sT:List Stmt→Nat→Stmt
 |[],_=>default
 |s::_,0=>s
 |_::b,n+1=>sT b n
noncomputable def cB:Stmt→List Stmt
 |.ClassDef _ _ _ b _ _ _ _ _ _ _=>b
 |_=>[]
noncomputable abbrev sO(s:String):Str:=Str.ofString s
noncomputable abbrev sV(s:String)(t:Nat):Value:=.str (Str.ofString s) t
noncomputable abbrev m0:Value:=sV "constraint" 194
noncomputable abbrev m1:Value:=sV "law_al0018_01" 717
noncomputable abbrev dE(P:Params)(s:String)(t:Nat)(v:Value):DictEntry:=.mk (PyData.keyHash P (Str.ofString s)) (sV s t) v
noncomputable abbrev oB(a:Nat)(o:Obj)(r:Frag):Frag:=(a,o)::r
noncomputable abbrev i0(n:Int):Value:=.int n 0
noncomputable abbrev fP:Value→Value:=fun v=>v
noncomputable def fO(st:Stmt)(q:String)(pm:Value)(c t:Nat)(l ac fl t':Int)(b:Bool)(d:Value)(r:Frag):Frag:=match st with
 |.FunctionDef n a bd _ _ _ sc _ _ _=>
  (c,.mk (.type "code") none (.fields #[.str n t,sV q (t+1),sV "/claim/cut.py" (t+2),i0 l,i0 ac,i0 0,i0 0,i0 fl,.ref (if b then c -5 else c -3),.bool true,i0 181,.ref (if b then c -4 else c -2),.none,if b then .ref (c -3)else .none,if b then .ref (c -2)else .none,.ref (c -1),i0 t',i0 l,sV "/claim/cut.py" (t'.toNat+1)]) #[])::
  (c+1,.mk (.type "function") none (.func ⟨n,sO q,a,.stmts bd,sc,3,[],d,.none,.none,pm,none,.ref c,.none,0⟩) #[])::r
 |_=>r
noncomputable def fr(P:Params):Frag:=
 oB 2 (.mk .none none (.dict #[]) #[])<|
 oB 3 (.mk (.type "dict") none (.dict #[dE P "__name__" 165 (sV "law_al0018_01" 717),dE P "__doc__" 166 .none,dE P "__package__" 167 .none,dE P "__loader__" 168 (.builtin "__main__.__loader__#opaque"),dE P "__spec__" 169 .none,dE P "__annotations__" 170 (.ref 6),dE P "__builtins__" 171 (.ref 4),dE P "__file__" 173 (sV "/claim/cut.py" 172),dE P "__cached__" 174 .none,dE P "_wall" 193 (.ref 21),dE P "Problem" 323 (.ref 110),dE P "Solver" 376 (.ref 145),dE P "BacktrackingSolver" 428 (.ref 186),dE P "RecursiveBacktrackingSolver" 480 (.ref 225),dE P "Variable" 516 (.ref 251),dE P "Unassigned" 522 (.ref 257),dE P "Domain" 582 (.ref 303),dE P "Constraint" 651 (.ref 347),dE P "FunctionConstraint" 684 (.ref 375),dE P "AllDifferentConstraint" 716 (.ref 395),dE P "_law_added" 727 (.ref 404),dE P "_law_ways" 733 (.ref 409),dE P "_law_refused" 741 (.ref 416),dE P "law" 747 (.ref 421)] 24) #[])<|
 fO (sT pg.main.body 0) "_wall" (sV "__main__" 164) 20 187 1 1 3 191 true .none<|
 oB 29 (.mk (.type "tuple") none (.seq #[.none]) #[])<|
 fO (sT (cB (sT pg.main.body 2)) 0) "Problem.__init__" m0 35 208 7 2 3 213 true (.ref 29)<|
 fO (sT (cB (sT pg.main.body 2)) 1) "Problem.reset" m0 42 216 12 1 3 220 true .none<|
 fO (sT (cB (sT pg.main.body 2)) 2) "Problem.setSolver" m0 49 223 16 2 3 228 true .none<|
 fO (sT (cB (sT pg.main.body 2)) 3) "Problem.getSolver" m0 56 231 19 1 3 235 true .none<|
 fO (sT (cB (sT pg.main.body 2)) 4) "Problem.addVariable" m0 63 238 22 3 3 245 true .none<|
 fO (sT (cB (sT pg.main.body 2)) 5) "Problem.addVariables" m0 70 248 35 3 3 255 true .none<|
 oB 72 (.mk (.type "tuple") none (.seq #[.none]) #[])<|
 fO (sT (cB (sT pg.main.body 2)) 6) "Problem.addConstraint" m0 78 258 39 3 3 265 true (.ref 72)<|
 fO (sT (cB (sT pg.main.body 2)) 7) "Problem.getSolution" m0 85 268 48 1 3 275 true .none<|
 fO (sT (cB (sT pg.main.body 2)) 8) "Problem.getSolutions" m0 92 278 54 1 3 285 true .none<|
 fO (sT (cB (sT pg.main.body 2)) 9) "Problem.getSolutionIter" m0 99 288 60 1 3 295 true .none<|
 fO (sT (cB (sT pg.main.body 2)) 10) "Problem._getArgs" m0 106 298 66 1 3 310 true .none<|
 oB 109 (.mk (.type "dict") none (.dict #[dE P "__module__" 203 (sV "constraint" 194),dE P "__firstlineno__" 207 (.int 5 206),dE P "__init__" 215 (.ref 36),dE P "reset" 222 (.ref 43),dE P "setSolver" 230 (.ref 50),dE P "getSolver" 237 (.ref 57),dE P "addVariable" 247 (.ref 64),dE P "addVariables" 257 (.ref 71),dE P "addConstraint" 267 (.ref 79),dE P "getSolution" 277 (.ref 86),dE P "getSolutions" 287 (.ref 93),dE P "getSolutionIter" 297 (.ref 100),dE P "_getArgs" 312 (.ref 107),dE P "__static_attributes__" 316 (.ref 108),dE P "__dict__" 318 (.ref 111),dE P "__weakref__" 320 (.ref 112),dE P "__doc__" 321 .none] 4) #[])<|
 oB 110 (.mk (.type "type") none (.cls (.mk (sO "Problem") [.type "object"] [.ref 110,.type "object"] 109 (sO "Problem") true [] [] false none false)) #[some (.ref 22),none,some (sV "Problem" 196),some (sV "Problem" 204),some (.builtin "object.__new__"),some (.bool true)])<|
 fO (sT (cB (sT pg.main.body 3)) 0) "Solver.getSolution" m0 127 336 89 4 3 344 true .none<|
 fO (sT (cB (sT pg.main.body 3)) 1) "Solver.getSolutions" m0 134 347 93 4 3 355 true .none<|
 fO (sT (cB (sT pg.main.body 3)) 2) "Solver.getSolutionIter" m0 141 358 97 4 3 366 true .none<|
 oB 144 (.mk (.type "dict") none (.dict #[dE P "__module__" 331 (sV "constraint" 194),dE P "__firstlineno__" 335 (.int 87 334),dE P "getSolution" 346 (.ref 128),dE P "getSolutions" 357 (.ref 135),dE P "getSolutionIter" 368 (.ref 142),dE P "__static_attributes__" 369 (.ref 143),dE P "__dict__" 371 (.ref 146),dE P "__weakref__" 373 (.ref 147),dE P "__doc__" 374 .none] 4) #[])<|
 oB 145 (.mk (.type "type") none (.cls (.mk (sO "Solver") [.type "object"] [.ref 145,.type "object"] 144 (sO "Solver") true [] [.ref 186,.ref 225] false none false)) #[some (.ref 115),none,some (sV "Solver" 324),some (sV "Solver" 332),some (.builtin "object.__new__"),some (.bool true)])<|
 oB 157 (.mk (.type "tuple") none (.seq #[.bool true]) #[])<|
 fO (sT (cB (sT pg.main.body 4)) 0) "BacktrackingSolver.__init__" m0 163 389 102 2 3 394 true (.ref 157)<|
 fO (sT (cB (sT pg.main.body 4)) 1) "BacktrackingSolver.getSolutionIter" m0 168 397 105 4 35 400 false .none<|
 fO (sT (cB (sT pg.main.body 4)) 2) "BacktrackingSolver.getSolution" m0 175 403 157 4 3 411 true .none<|
 fO (sT (cB (sT pg.main.body 4)) 3) "BacktrackingSolver.getSolutions" m0 182 414 164 4 3 421 true .none<|
 oB 185 (.mk (.type "dict") none (.dict #[dE P "__module__" 384 (sV "constraint" 194),dE P "__firstlineno__" 388 (.int 100 387),dE P "__init__" 396 (.ref 164),dE P "getSolutionIter" 402 (.ref 169),dE P "getSolution" 413 (.ref 176),dE P "getSolutions" 423 (.ref 183),dE P "__static_attributes__" 425 (.ref 184),dE P "__doc__" 426 .none] 2) #[])<|
 oB 186 (.mk (.type "type") none (.cls (.mk (sO "BacktrackingSolver") [.ref 145] [.ref 186,.ref 145,.type "object"] 185 (sO "BacktrackingSolver") true [] [] false none false)) #[some (.ref 150),none,some (sV "BacktrackingSolver" 377),some (sV "BacktrackingSolver" 385),some (.builtin "object.__new__"),some (.bool true)])<|
 oB 196 (.mk (.type "tuple") none (.seq #[.bool true]) #[])<|
 fO (sT (cB (sT pg.main.body 5)) 0) "RecursiveBacktrackingSolver.__init__" m0 202 441 168 2 3 446 true (.ref 196)<|
 fO (sT (cB (sT pg.main.body 5)) 1) "RecursiveBacktrackingSolver.recursiveBacktracking" m0 207 449 171 6 3 452 false .none<|
 fO (sT (cB (sT pg.main.body 5)) 2) "RecursiveBacktrackingSolver.getSolution" m0 214 455 205 4 3 463 true .none<|
 fO (sT (cB (sT pg.main.body 5)) 3) "RecursiveBacktrackingSolver.getSolutions" m0 221 466 209 4 3 473 true .none<|
 oB 224 (.mk (.type "dict") none (.dict #[dE P "__module__" 436 (sV "constraint" 194),dE P "__firstlineno__" 440 (.int 166 439),dE P "__init__" 448 (.ref 203),dE P "recursiveBacktracking" 454 (.ref 208),dE P "getSolution" 465 (.ref 215),dE P "getSolutions" 475 (.ref 222),dE P "__static_attributes__" 477 (.ref 223),dE P "__doc__" 478 .none] 2) #[])<|
 oB 225 (.mk (.type "type") none (.cls (.mk (sO "RecursiveBacktrackingSolver") [.ref 145] [.ref 225,.ref 145,.type "object"] 224 (sO "RecursiveBacktrackingSolver") true [] [] false none false)) #[some (.ref 189),none,some (sV "RecursiveBacktrackingSolver" 429),some (sV "RecursiveBacktrackingSolver" 437),some (.builtin "object.__new__"),some (.bool true)])<|
 fO (sT (cB (sT pg.main.body 6)) 0) "Variable.__init__" m0 240 493 213 2 3 498 true .none<|
 fO (sT (cB (sT pg.main.body 6)) 1) "Variable.__repr__" m0 247 501 216 1 3 505 true .none<|
 oB 250 (.mk (.type "dict") none (.dict #[dE P "__module__" 488 (sV "constraint" 194),dE P "__firstlineno__" 492 (.int 211 491),dE P "__init__" 500 (.ref 241),dE P "__repr__" 507 (.ref 248),dE P "__static_attributes__" 509 (.ref 249),dE P "__dict__" 511 (.ref 252),dE P "__weakref__" 513 (.ref 253),dE P "__doc__" 514 .none] 4) #[])<|
 oB 251 (.mk (.type "type") none (.cls (.mk (sO "Variable") [.type "object"] [.ref 251,.type "object"] 250 (sO "Variable") true [] [] false none false)) #[some (.ref 228),none,some (sV "Variable" 481),some (sV "Variable" 489),some (.builtin "object.__new__"),some (.bool true)])<|
 oB 256 (.mk (.type "dict") none (.dict #[dE P "name" 521 (sV "Unassigned" 517)] 1) #[])<|
 oB 257 (.mk (.ref 251) (some 256) .plain #[])<|
 fO (sT (cB (sT pg.main.body 8)) 0) "Domain.__init__" m0 271 535 221 2 3 540 true .none<|
 fO (sT (cB (sT pg.main.body 8)) 1) "Domain.resetState" m0 278 543 226 1 3 547 true .none<|
 fO (sT (cB (sT pg.main.body 8)) 2) "Domain.pushState" m0 285 550 231 1 3 554 true .none<|
 fO (sT (cB (sT pg.main.body 8)) 3) "Domain.popState" m0 292 557 234 1 3 562 true .none<|
 fO (sT (cB (sT pg.main.body 8)) 4) "Domain.hideValue" m0 299 565 240 2 3 570 true .none<|
 oB 302 (.mk (.type "dict") none (.dict #[dE P "__module__" 530 (sV "constraint" 194),dE P "__firstlineno__" 534 (.int 219 533),dE P "__init__" 542 (.ref 272),dE P "resetState" 549 (.ref 279),dE P "pushState" 556 (.ref 286),dE P "popState" 564 (.ref 293),dE P "hideValue" 572 (.ref 300),dE P "__static_attributes__" 575 (.ref 301),dE P "__dict__" 577 (.ref 304),dE P "__weakref__" 579 (.ref 305),dE P "__doc__" 580 .none] 4) #[])<|
 oB 303 (.mk (.type "type") none (.cls (.mk (sO "Domain") [.type "list"] [.ref 303,.type "list",.type "object"] 302 (sO "Domain") true [] [] false none false)) #[some (.ref 259),none,some (sV "Domain" 523),some (sV "Domain" 531),some (.builtin "list.__new__"),some (.bool true)])<|
 fO (sT (cB (sT pg.main.body 9)) 0) "Constraint.__eq__" m0 320 595 245 2 3 600 true .none<|
 oB 322 (.mk (.type "tuple") none (.seq #[.bool false]) #[])<|
 fO (sT (cB (sT pg.main.body 9)) 1) "Constraint.__call__" m0 328 603 248 5 3 611 true (.ref 322)<|
 fO (sT (cB (sT pg.main.body 9)) 2) "Constraint.preProcess" m0 335 614 251 5 3 625 true .none<|
 oB 337 (.mk (.type "tuple") none (.seq #[.ref 257]) #[])<|
 fO (sT (cB (sT pg.main.body 9)) 3) "Constraint.forwardCheck" m0 343 628 261 5 3 640 true (.ref 337)<|
 oB 346 (.mk (.type "dict") none (.dict #[dE P "__module__" 590 (sV "constraint" 194),dE P "__firstlineno__" 594 (.int 243 593),dE P "__eq__" 602 (.ref 321),dE P "__call__" 613 (.ref 329),dE P "preProcess" 627 (.ref 336),dE P "forwardCheck" 642 (.ref 344),dE P "__static_attributes__" 643 (.ref 345),dE P "__dict__" 645 (.ref 348),dE P "__weakref__" 647 (.ref 349),dE P "__doc__" 648 .none,dE P "__hash__" 649 .none] 5) #[])<|
 oB 347 (.mk (.type "type") none (.cls (.mk (sO "Constraint") [.type "object"] [.ref 347,.type "object"] 346 (sO "Constraint") true [] [.ref 375,.ref 395] false none false)) #[some (.ref 308),none,some (sV "Constraint" 583),some (sV "Constraint" 591),some (.builtin "object.__new__"),some (.bool true)])<|
 oB 359 (.mk (.type "tuple") none (.seq #[.bool true]) #[])<|
 fO (sT (cB (sT pg.main.body 10)) 0) "FunctionConstraint.__init__" m0 365 664 283 3 3 670 true (.ref 359)<|
 oB 367 (.mk (.type "tuple") none (.seq #[.bool false,.ref 257]) #[])<|
 fO (sT (cB (sT pg.main.body 10)) 1) "FunctionConstraint.__call__" m0 371 673 287 6 3 676 false (.ref 367)<|
 oB 374 (.mk (.type "dict") none (.dict #[dE P "__module__" 659 (sV "constraint" 194),dE P "__firstlineno__" 663 (.int 281 662),dE P "__init__" 672 (.ref 366),dE P "__call__" 678 (.ref 372),dE P "__static_attributes__" 681 (.ref 373),dE P "__doc__" 682 .none] 2) #[])<|
 oB 375 (.mk (.type "type") none (.cls (.mk (sO "FunctionConstraint") [.ref 347] [.ref 375,.ref 347,.type "object"] 374 (sO "FunctionConstraint") true [] [] false none false)) #[some (.ref 352),none,some (sV "FunctionConstraint" 652),some (sV "FunctionConstraint" 660),some (.builtin "object.__new__"),some (.bool true)])<|
 oB 385 (.mk (.type "tuple") none (.seq #[.bool false,.ref 257]) #[])<|
 fO (sT (cB (sT pg.main.body 11)) 0) "AllDifferentConstraint.__call__" m0 391 697 295 6 3 710 true (.ref 385)<|
 oB 394 (.mk (.type "dict") none (.dict #[dE P "__module__" 692 (sV "constraint" 194),dE P "__firstlineno__" 696 (.int 293 695),dE P "__call__" 712 (.ref 392),dE P "__static_attributes__" 713 (.ref 393),dE P "__doc__" 714 .none] 2) #[])<|
 oB 395 (.mk (.type "type") none (.cls (.mk (sO "AllDifferentConstraint") [.ref 347] [.ref 395,.ref 347,.type "object"] 394 (sO "AllDifferentConstraint") true [] [] false none false)) #[some (.ref 378),none,some (sV "AllDifferentConstraint" 685),some (sV "AllDifferentConstraint" 693),some (.builtin "object.__new__"),some (.bool true)])<|
 fO (sT pg.main.body 13) "_law_added" m1 403 719 314 3 3 725 true .none<|
 fO (sT pg.main.body 14) "_law_ways" m1 408 728 322 3 3 731 false .none<|
 fO (sT pg.main.body 15) "_law_refused" m1 415 734 332 2 3 739 true .none<|
 fO (sT pg.main.body 16) "law" m1 420 742 343 1 3 745 false .none []
noncomputable abbrev as0:List Addr:=[2,3,20,21,29,35,36,42,43,49,50,56,57,63,64,70,71,72,78,79,85,86,92,93,99,100,106,107,109,110,127,128,134,135,141,142,144,145,157,163,164,168,169,175,176,182,183,185,186,196,202,203,207,208,214,215,221,222,224,225,240,241,247,248,250,251,256,257,271,272,278,279,285,286,292,293,299,300,302,303,320,321,322,328,329,335,336,337,343,344,346,347,359,365,366,367,371,372,374,375,385,391,392,394,395,403,404,408,409,415,416,420,421]
noncomputable abbrev HH:Hook:=kHook fr as0 (fun _=>by kernel_rfl)
noncomputable abbrev LS0:List Str:=[sO "Problem",sO "BacktrackingSolver",sO "RecursiveBacktrackingSolver",sO "Unassigned",sO "Constraint",sO "FunctionConstraint",sO "AllDifferentConstraint"]
noncomputable abbrev An:Option Value:=some (.ref 6)
noncomputable abbrev RW0:RowW:=PySem.Challenge.rw_al0018_01.row.toRowW
noncomputable def Xt0(s:Shared):Bool:=xlAt vw [] s&&recOk (RowW.records RW0) s
noncomputable def ev:Env:=Env.mk pg.main.scope mainNs mainNs [] Str.empty none (.ref 13) (some 14) 0
noncomputable abbrev W6:List Stmt:=behindTheImports pg
noncomputable abbrev q0:Pos:=⟨0,0,0,0⟩
noncomputable abbrev q1:List Frame:=[topFrame q0]
noncomputable abbrev lf:Life:=Life.mk [] [] [] 0 [] [] false #[] [] 0 false false false 0 [2000,10,10] false 0 true [] [] 0 false
noncomputable abbrev n1:Obj:=.mk (.type "tuple") none (.seq #[]) #[]
noncomputable abbrev n2:Obj:=.mk .none none (.fields #[]) #[]
noncomputable abbrev n3:Obj:=.mk (.type "code") none (.fields #[sV "<module>" 182,sV "<module>" 183,sV "/claim/cut.py" 184,i0 1,i0 0,i0 0,i0 0,i0 0,.ref 11,.bool false,i0 181,.ref 12,.none,.none,.none,.none,i0 185,i0 1,sV "/claim/cut.py" 186]) #[]
noncomputable abbrev n4:Obj:=.mk (.type "frame") none .plain #[some (.ref 13),some (.ref 3),some (.ref 3),none,some (sV "__main__" 164),none,some (.ref 0)]
noncomputable abbrev S0(w:World)(os:OsState):Shared:=⟨boot_heap w.params,.mk [],boot_drawn,boot_toks,os⟩
noncomputable def Sa(w:World)(os:OsState):Shared:=⟨.mk (.mk [boot_o_0 w.params,boot_o_1 w.params,boot_o_2 w.params,boot_o_3 w.params,boot_o_4 w.params,boot_o_5 w.params,boot_o_6 w.params,boot_o_7 w.params,boot_o_8 w.params,boot_o_9 w.params,boot_o_10 w.params,n1,n2,n3,n4]) lf,.mk [],⟨0,0,0,0⟩,187,os⟩
noncomputable def tB:List Obj→Nat→BT→BT
 |[],_,t=>t
 |o::l,i,t=>tB l (i+1) (t.ins i o)
noncomputable def Sb(w:World)(os:OsState):SharedT:=⟨tB [boot_o_0 w.params,boot_o_1 w.params,boot_o_2 w.params,boot_o_3 w.params,boot_o_4 w.params,boot_o_5 w.params,boot_o_6 w.params,boot_o_7 w.params,boot_o_8 w.params,boot_o_9 w.params,boot_o_10 w.params,n1,n2,n3,n4] 0 .nil,15,lf,.mk [],⟨0,0,0,0⟩,187,os⟩
theorem pre(w:World)(os:OsState):topGo treeTable pg w 11 An 12 (S0 w os) (topStub pg)=some (Sa w os,⟨denote treeTable (.body W6 ev),.body W6 ev,q0,q1⟩):=by
 kernel_rfl
theorem blk(w:World)(os:OsState):segRun treeTable pg w 11 An 1 1 (Sa w os) (blockOf W6 ev (.body W6 ev) q0 q1)=some (.next,(Sb w os).abs,.body W6 ev,q0):=by
 kernel_rfl
theorem seg_end{tb:String→Option Builtin}{p:Program}{w:World}{XG:Nat}{ann:Option Value}{env:Env}{q:Pos}{n N:Nat}{s s' r:Shared}{l:List Stmt}{c c':Code}{pos p':Pos}(h:segRun tb p w XG ann 1 n s (piecesOf l env c pos [topFrame q])=some (.next,s',c',p'))
  (k:topRun tb p w XG ann N s' ⟨doneF .next,c',p',[topFrame q]⟩=some r):topRun tb p w XG ann (n+N) s (restOf l env c pos [topFrame q])=some r:=by
 obtain⟨a,ha,hN⟩:=seg_top (res:=id) (K':=doneF) (H':=leaveH env) (B:=[topFrame q]) rfl n s (piecesOf l env c pos [topFrame q])
  (restOf l env c pos [topFrame q]) _ _ _ _ ⟨rfl,rfl,.inl ⟨rfl,rfl,_,rfl,rfl⟩⟩ h
 obtain rfl:a=.next:=ha;exact hN N r k
noncomputable def oneRun{α:Type}(p q:Program)(loose:List Str)(Xt:Shared→Bool)(Yf:Shared→α)(h₀:Heap)(E1:Nat)(ann:Option Value)(q0:Pos)(n k:Nat)(w:World)(s:SharedT)(t:Thread):=
 (segRunT treeTable p w E1 ann 1 n s t).bind fun r=>match r with
 |(.next,s',c',p')=>(topRun treeTable p w E1 ann k s'.abs ⟨doneF .next,c',p',[topFrame q0]⟩).map fun s=>
  ((staticsOk (importedModules p.main.body) h₀ s.heap&&namesBound p s.heap&&gensDone s&&laidKept h₀ s.heap),openSeen q loose (importedModules p.main.body) Xt true s,Yf s)
 |_=>none
theorem TQ{p q:Program}{loose:List Str}{Xt:Shared→Bool}{α:Type}{Yf:Shared→α}{Ya:World→α}{H₀:Params→Heap}{IY:Array GenState}{XH:Drawn}{XI E1 n1 n2 n3 n4 M:Nat}{ann:Option Value}{b:List Stmt}{env:Env}{pos p1 q0:Pos}{Sa:World→OsState→Shared}{Sb:World→OsState→SharedT}
  (aaf:∀w:World,(fencedOpening treeTable p w (n1+(n2+(n3+n4))+M)).map (fun s=>(s.heap,s.gens,s.drawn,s.toks))=some (H₀ w.params,IY,XH,XI))
  (size:∀w:World,((H₀ w.params).isNs mainGlobals&&IY.size==0,(H₀ w.params).objs.size,(H₀ w.params).nsMap mainGlobals "__annotations__")=(true,E1,ann))
  (pre:∀w os,topGo treeTable p w E1 ann n1 ⟨H₀ w.params,IY,XH,XI,os⟩ (topStub p)=some (Sa w os,⟨denote treeTable (.body b env),.body b env,pos,[topFrame q0]⟩))
  (blk:∀w os,segRun treeTable p w E1 ann 1 n2 (Sa w os) (blockOf b env (.body b env) pos [topFrame q0])=some (.next,(Sb w os).abs,.body b env,p1))
  (run:∀w os,oneRun p q loose Xt Yf (H₀ w.params) E1 ann q0 n3 n4 w (Sb w os) (piecesOf b env (.body b env) p1 [topFrame q0])=some (true,openGood q loose,Ya w)):LeftO p q loose Xt Yf Ya (n1+(n2+(n3+n4))+M):=fun w=>by
 obtain⟨⟨h,gs,d,k,os⟩,e,e'⟩:=Option.map_eq_some_iff.mp (aaf w);obtain⟨rfl,rfl,rfl,rfl⟩:h=H₀ w.params∧gs=IY∧d=XH∧k=XI:=by simpa using e'
 obtain⟨z1,z2,z3⟩:_∧_∧_:=by simpa only[Prod.mk.injEq] using size w
 obtain⟨⟨fl,s',c',p'⟩,h1,h2⟩:=Option.bind_eq_some_iff.mp (run w os);cases fl with
 |next=>
  obtain⟨r,h3,h4⟩:=Option.map_eq_some_iff.mp h2;have k3:=topRun_mono M _ _ _ _ (go_top (pre w os) (piece_block (blk w os) (seg_end (segRun_of h1) h3)));obtain⟨l1,l2,l3⟩:_∧_∧_:=by simpa only[Prod.mk.injEq] using h4
  have t:topFrom treeTable p w (n1+(n2+(n3+n4))+M) ⟨H₀ w.params,gs,d,k,os⟩=some r:=by
   unfold topFrom;dsimp only;rw[z1,z2,z3,k3];show(match staticsOk (importedModules p.main.body) (H₀ w.params) r.heap&&namesBound p r.heap&&gensDone r&&laidKept (H₀ w.params) r.heap with|true=>_|false=>_)=_
   rw[l1]
  unfold openEnds;rw[e];show(topFrom treeTable p w _ _).map _=_;rw[t];exact congrArg some (Prod.ext l2 l3)
 |_=>cases h2
theorem run(w:World)(os:OsState):oneRun pg vw LS0 Xt0 (Hook.obs HH) (boot_heap w.params) 11 An q0 3400 3 w (Sb w os) (piecesOf W6 ev (.body W6 ev) q0 q1)=some (true,openGood vw LS0,Hook.val HH w):=by
 unfold oneRun;rw[PySem.W.Fast.te10110043849684766642,PySem.W.Fast.te14082659384304107361,PySem.W.Fast.te4187177175401517315]
 kernel_rfl
theorem left:LeftO pg vw LS0 Xt0 (Hook.obs HH) (Hook.val HH) (12+(1+(3400+3))+0):=
 TQ (H₀:=boot_heap) (boot_open (by kernel_rfl) (by decide) (fun s=>by kernel_rfl)) (fun w=>by kernel_rfl) pre blk run
noncomputable def dL:DefRec:=match defOf vw RW0.name with
 |some (d,_)=>d
 |none=>⟨sO "",default,[],default,default⟩
theorem aag:OpenLaw.wellSaid PySem.Challenge.rw_al0018_01=true:=by
 rw[PySem.W.Fast.te9446332074065402090]
 kernel_rfl
theorem top(walk:WalkO vw LS0 (XL vw []) HH.says RW0 dL [] fun f vs=>call f vs):PySem.Challenge.rw_al0018_01.Holds:=by
 w_on
 refine holds_law aag fun acV=>?_;refine holds_open (q:=vw) (loose:=LS0) (Xt:=Xt0) (XP:=XL vw []) (Yf:=Hook.obs HH) (Ya:=Hook.val HH) (YP:=Hook.says HH) (N:=12+(1+(3400+3))+0) left (Hook.of HH) (Hook.keeps HH) (fun s e=>xl_of s (Bool.and_eq_true_iff.mp e).1) XL.keeps (by kernel_rfl) (by kernel_rfl) (by kernel_rfl) (fun s e=>recFacts_of (Bool.and_eq_true_iff.mp e).2) rfl acV (by kernel_rfl) ⟨rfl,rfl,rfl,rfl,rfl,by decide+kernel⟩ ?hw walk
 w_witness2
end qo.Hd
namespace qo
open PySem renaming wpAny_bind→af,wpAny_pure→aE,Shared→aB,Addr→ah,Around→aG,wpAny_holding→dB,wpAny_standAt→gz,wpAny_mono→eV,World→bz,Expr→aQ,DictEntry→gf,wpAny_newObj_type→nK,plainId_quiet→kj,wpAny_loadPart'→nM,ExceptHandler→kN,wpAny_call_entry→oz,codeAny_builtin→oA,wpAny_call→kq,wpAny_of_eq→mD,wpAny_field→mE,wpAny_specialOf→rm,Stmt→bT,wpAny_loadPart→ux,wpAny_callSpecial?_slot→CY,wpAny_rule→oE,slot_listiter_next→y9,wpAny_truthy_bool→s7,isSubtype_type→qx,codeAny_call_builtin→wH,wpAny_execs_cons→tu,wpAny_listPart→tC,wpAny_isInstance→wI,wpAny_letGo→qy,StrKeys→kB,Scope→gE,Protocol→m9,wpAny_dictEntries→Ar,sizeLine_eq→tE,wpAny_newList→wJ,slot_gen_next→wK,evalPart_none→wL,canon_list_getattribute→Fj,GenState→oX,wpAny_typeOf→wM,wpAny_load→tF,wpAny_handleBy_builtin→Fo,Result→kC,wpAny_ite_split→As,codeAny_of_tree→Au,wpAny_storeName_local→Fp,wpAny_notOrdered_dict→Fq,wpAny_updateDictKeys→Ft,wpAny_loadName_local→Fv,wpAny_letTemporaryGo→Fw,wpAny_Slice→wN,eval_Subscript→Av,arm_delete_Subscript→Fx,wpAny_ite→tG,wpAny_attempt→Aw,Flow→gF,wpAny_Return_some→Fy,seg_wrap→tH,codeAny_mono→Ax,wpAny_eqBool_int→Fz,wpAny_askSetting→FA,wpAny_Try_except→FD,wpAny_alloc→Ay,Model→k7,wpAny_setField→FE,wpAny_seqItems→FG,wpAny_Name→Az,seg_execs_cons→FH,GenEnd→qz,FuncData→wO,wpAny_handled→FI,evalPart_some→FJ,Comprehension→FL,seg_again→AA,codeAny_call_builtin_at→NT,wpAny_mkText→FN,IsPart→tK,BindsTo→wQ,codeAny_call_function→NU,wpAny_throw→FO,wpAny_storeName_cell→NV,wpAny_mkInt→FP,seg_leaf→AB,entry_listiter_next→NW,wpAny_delItem_slot→NX,args_listiter_next→NY,wpAny_isNot_other→NZ,wpAny_dictFind_of→N3,slot_dict_setitem→N4,listSliceParts_eq→N5,OsState→AD
open PySem.Str renaming ofString→av
open List renaming mem_cons→bw,mem_cons_self→cI,mem_cons_of_mem→cZ,length_map→bR,mem_singleton→bO,length_append→bU,mem_append_right→cU,mem_append_left→dD,mem_map_of_mem→dF,getElem?_eq_some_iff→fU,mem_append→dc,prefix_rfl→dz,mem_map→bX,mem_filter→dG,nodup_cons→dO,prefix_append→fJ,append_nil→eW,getElem?_set_ne→gZ,getElem?_eq_getElem→jy,append_assoc→gQ,all_eq_true→iE,map_append→ic,map_cons→gC,getElem?_set_self→mF,getElem?_append_left→oF,lookup_cons→jz,map_map→iM,map_eq_nil_iff→qg,contains_iff_mem→rq,nodup_append→oH,getElem?_map→qh,replicate→nO,mem_of_getElem?→uy,filter_cons_of_neg→we,range→kO,map_congr_left→wg,length_singleton→za,getElem?_eq_none→zb,size_toArray→wj,filter_cons_of_pos→CZ,pairwise_cons→zg,filter_eq_nil_iff→C0,drop_eq_nil_of_le→C1,length_filter_le→C2,pairwise_map→zh,getD_eq_getElem?_getD→AF,drop_eq_getElem_cons→AG,getElem_of_mem→wR,map→jN,forIn_cons→tL,lookup_append→wU,drop_drop→tM,length_cons→wW,getElem?_concat_length→FQ,getElem?_append_right→FT,findIdx?_cons→AH,mem_flatMap→AI,length_take→AJ,length_nil→AK,find?_cons→AP,length→wX,getLast?_concat→FU,drop_eq_nil_iff→FW,length_pos_iff→FY,map_take→AQ,toArray→AR,eraseIdx_eq_take_drop_succ→N6,length_drop→FZ,getElem_mem→F3,getElem_inj→F4,getElem!_eq_getElem?_getD→N7,cons→wY,length_set→F5,perm_ext_iff_of_nodup→N8,perm_append_singleton→N9,mem_range→F6,pairwise_iff_getElem→Oa,nil_perm→F7,getElem?_replicate→Oc,getElem?_cons_succ→Od,map_eq_append_iff→Oe,length_eq_one_iff→Of,perm_append_comm→Og,findIdx?_toArray→Oh,perm_cons_erase→Oi,dropLast_concat→Oj,filter_sublist→Ol,filterMap_cons→Om,filter_append→Oo,length_range→Oq,take_length→Ot,ext_getElem→Ou,nil_append→Ov,filter_map→Ow,take_left→Ox,any_cons→Oz,all_cons→OA,map_nil→OB,any_nil→OC
open Exists renaming elim→bB
open PySem.Obj renaming mapSeq→bK,data_mapFields→AU,mapDictKeys→F8,isFreed_of_fields→OD,putName→F9
open PySem.BindsTo renaming of_eq→gD,of_defaults→oJ
open Bool renaming false_eq_true→jT,and_eq_true_iff→qi,or_eq_true_iff→rt,false_ne_true→uz,and_eq_true→uA,not_eq_true'→zj,or_false→Gd,not_true→Ge,not_not→Gf,or_eq_true→OG,false_and→OH,and_false→OI,false_or→OJ
open PySem.Around renaming under_plainId→nP,frames_deeper→Gg
open Ne renaming symm→dg
open PySem.NameKind renaming free→jd,cell→jA
open Option.some renaming inj→kP,injEq→OM
open PySem.W.Looks renaming of_pure→kQ,ld→ng
open Option renaming map_eq_some_iff→uB,isSome_iff_exists→zk,isSome_some→OO,isNone_none→OQ,bind_some→OS,map_some→OT
open Pure renaming pure→jU
open Prod renaming fst→je,snd→wZ
open PySem.W renaming Looks→eX,looks_findIn→oY,hideAll_get→qA,hideAll_none→w6,of_hideAll→w7,putName_dict→Gh,looks_mroIn→Gi,looks_clsIn→Gj,lookIn_dict→Gn,mg_none_of→Gp,TopRead→AW
open PySem.Calls renaming call_function_entry→zl,Name_function_global→Gq,loadGlobal_builtin→Gs
open False renaming elim→k9
open PyProof.Rows renaming AllBare→iA,News→dR,listItems_at→AX,listUpdate_at→Gu,markedEach_of_false→OU
open PySem.PyData renaming int→qB,keyHash→AY
open ForInStep renaming yield→AZ
open PySem.Bind renaming checkArgs→A0
open PySem.Shared renaming setGen→A1,TypeIs→Gv
open List.Nodup renaming length_le_of_subset→OV,sublist→OW
open And renaming intro→tN
open PySem.Sem renaming wrap_wrap→A2,bind_eq_wrap'→Gz,bind_eq_wrap→OX,wrap_congr→OY
open PySem.MeetsSeq renaming plain_contains_loop→GB,plain_remove_loop→GC,plain_index_loop→GF
open PySem.W.KPc renaming Good→tO,short_good→GH,ite_no→A3,turn→GI,entry_is_s→OZ
open List.cons renaming inj→GJ
open List.Sublist renaming map→O0
open PySem.Manifest renaming signature?→O1,canonical→O2,find?→O3
open PySem.KeyKind renaming is_eq_decide→O4
open PySem.SeqAt renaming EqAt→iQ
open PySem.callAny renaming viaDunder→O5
open PySem.Code renaming quiet_builtin→O6
open PySem.W.WData renaming int→GK
open Classical renaming em→O7
open Iff renaming rfl→A4
open PySem.ExcName renaming means→O8
open Prod.mk renaming inj→O9
theorem bN:type_of%@decide_eq_true:=@decide_eq_true
theorem cP:type_of%@of_decide_eq_true:=@of_decide_eq_true
theorem au:type_of%@if_neg:=@if_neg
theorem bP:type_of%@decide_eq_false:=@decide_eq_false
theorem aF:type_of%@if_pos:=@if_pos
theorem aR:type_of%@congrArg:=@congrArg
theorem nj:type_of%@decide_eq_decide:=@decide_eq_decide
theorem oZ:type_of%@decide_eq_true_eq:=@decide_eq_true_eq
noncomputable section
set_option deriving.decEq.linear_construction_threshold 100
open PySem (Str)
set_option genCtorIdx false in
inductive mG(u:Unit) where
 |solver|constraints|eE|cy|hidden|fh
abbrev Attr:=mG ()
noncomputable def mG.ctorIdx{u:Unit}(x:mG u):Nat:=mG.casesOn x 0 1 2 3 4 5
noncomputable def mG.at(n:Nat):Attr:=[.solver,.constraints,.eE,.cy,.hidden,.fh].getD n .solver
theorem mG.fj(x:Attr):mG.at x.ctorIdx=x:=by cases x<;>rfl
noncomputable instance:DecidableEq Attr:=fun a b=>if h:a.ctorIdx=b.ctorIdx then isTrue (((mG.fj a).symm.trans (aR mG.at h)).trans (mG.fj b))else isFalse fun e=>h (e▸rfl)
set_option genCtorIdx false in
inductive uT(u:Unit) where
 |problem|backtracking|recursive|solver|domain|dN|constraint
abbrev vN:=uT ()
noncomputable def uT.ctorIdx{u:Unit}(x:uT u):Nat:=uT.casesOn x 0 1 2 3 4 5 6
noncomputable def uT.at(n:Nat):vN:=[.problem,.backtracking,.recursive,.solver,.domain,.dN,.constraint].getD n .problem
theorem uT.fj(x:vN):uT.at x.ctorIdx=x:=by cases x<;>rfl
noncomputable instance:DecidableEq vN:=fun a b=>if h:a.ctorIdx=b.ctorIdx then isTrue (((uT.fj a).symm.trans (aR uT.at h)).trans (uT.fj b))else isFalse fun e=>h (e▸rfl)
set_option genCtorIdx false in
inductive Ml(u:Unit) where
 |uC|qC|iC|cz|dY|dI|cT|dZ|ig
 |eH|d7|dj
 |wk|aK|bl|aZ|wm
 |ru|gJ|iD|gO|gH
 |fW|aCall
 |jk|ry|gj|Cu
abbrev Fn:=Ml ()
noncomputable def Ml.ctorIdx{u:Unit}(x:Ml u):Nat:=Ml.casesOn x 0 1 2 3 4 5 6 7 8 9 10 11 12 13 14 15 16 17 18 19 20 21 22 23 24 25 26 27
noncomputable def Ml.at(n:Nat):Fn:=[.uC,.qC,.iC,.cz,.dY,.dI,.cT,.dZ,.ig,.eH,.d7,.dj,.wk,.aK,.bl,.aZ,.wm,.ru,.gJ,.iD,.gO,.gH,.fW,.aCall,.jk,.ry,.gj,.Cu].getD n .uC
theorem Ml.fj(x:Fn):Ml.at x.ctorIdx=x:=by cases x<;>rfl
noncomputable instance:DecidableEq Fn:=fun a b=>if h:a.ctorIdx=b.ctorIdx then isTrue (((Ml.fj a).symm.trans (aR Ml.at h)).trans (Ml.fj b))else isFalse fun e=>h (e▸rfl)
set_option genCtorIdx false in
inductive Gl where
 |len|list|tuple|sorted|isinstance|callable|repr|range
 |cls (c:vN)|fn (f:Fn)|unassigned
noncomputable def Gl.ctorIdx(x:Gl):Nat:=Gl.casesOn x 0 1 2 3 4 5 6 7 (fun _=>8) (fun _=>9) 10
noncomputable def Gl.cd(x:Gl):Nat:=Gl.casesOn x 0 0 0 0 0 0 0 0 (fun c=>c.ctorIdx) (fun f=>f.ctorIdx) 0
noncomputable def Gl.at(n m:Nat):Gl:=if n=8 then .cls (uT.at m)else if n=9 then .fn (Ml.at m)else [.len,.list,.tuple,.sorted,.isinstance,.callable,.repr,.range,.len,.len,.unassigned].getD n .len
theorem Gl.fj(x:Gl):Gl.at x.ctorIdx x.cd=x:=by
 cases x with
 |cls c=>exact aR Gl.cls (uT.fj c)
 |fn f=>exact aR Gl.fn (Ml.fj f)
 |_=>rfl
noncomputable instance iGl:DecidableEq Gl:=fun a b=>if h:(a.ctorIdx,a.cd)=(b.ctorIdx,b.cd)then isTrue ((a.fj.symm.trans (aR (fun p=>Gl.at p.1 p.2) h)).trans b.fj)else isFalse fun e=>h (e▸rfl)
set_option genCtorIdx false in
inductive SA(u:Unit) where
 |value|type|jm
abbrev Ex:=SA ()
noncomputable def SA.ctorIdx{u:Unit}(x:SA u):Nat:=SA.casesOn x 0 1 2
noncomputable def SA.at(n:Nat):Ex:=[.value,.type,.jm].getD n .value
theorem SA.fj(x:Ex):SA.at x.ctorIdx=x:=by cases x<;>rfl
noncomputable instance:DecidableEq Ex:=fun a b=>if h:a.ctorIdx=b.ctorIdx then isTrue (((SA.fj a).symm.trans (aR SA.at h)).trans (SA.fj b))else isFalse fun e=>h (e▸rfl)
set_option genInjectivity true in
set_option genCtorIdx false in
inductive AV where
 |none|bool (b:Bool)|int (i:Int)|str (s:Str)|CB (big:Bool)|glob (g:Gl)|loc (l:Nat)
noncomputable def AV.ctorIdx(x:AV):Nat:=AV.casesOn x 0 (fun _=>1) (fun _=>2) (fun _=>3) (fun _=>4) (fun _=>5) (fun _=>6)
noncomputable def AV.ci(x:AV):Int:=AV.casesOn x 0 (fun b=>cond b 1 0) (fun i=>i) (fun _=>0) (fun b=>cond b 1 0) (fun _=>0) (fun l=>l)
noncomputable def AV.cs(x:AV):Str:=AV.casesOn x ⟨#[]⟩ (fun _=>⟨#[]⟩) (fun _=>⟨#[]⟩) (fun s=>s) (fun _=>⟨#[]⟩) (fun _=>⟨#[]⟩) (fun _=>⟨#[]⟩)
noncomputable def AV.cg(x:AV):Gl:=AV.casesOn x .len (fun _=>.len) (fun _=>.len) (fun _=>.len) (fun _=>.len) (fun g=>g) (fun _=>.len)
noncomputable def AV.at(n:Nat)(i:Int)(s:Str)(g:Gl):AV:=[.none,.bool (decide (i=1)),.int i,.str s,.CB (decide (i=1)),.glob g,.loc i.toNat].getD n .none
theorem AV.fj(x:AV):AV.at x.ctorIdx x.ci x.cs x.cg=x:=by
 cases x with
 |bool b=>cases b<;>rfl
 |CB b=>cases b<;>rfl
 |_=>rfl
noncomputable instance iAV:DecidableEq AV:=fun a b=>if h:(a.ctorIdx,a.ci,a.cs,a.cg)=(b.ctorIdx,b.ci,b.cs,b.cg)then isTrue ((a.fj.symm.trans (aR (fun p=>AV.at p.1 p.2.1 p.2.2.1 p.2.2.2) h)).trans b.fj)else isFalse fun e=>h (e▸rfl)
abbrev LM:=List (Option AV)
set_option genInjectivity true in
set_option genCtorIdx false in
inductive AO where
 |list (xs:List AV)|tuple (xs:List AV)|dict (kvs:List (AV×AV)) (ep:Nat)
 |attrs (fs:List (Attr×AV))
 |inst (c:vN) (d:Nat)|dom (xs:List AV) (d:Nat)
 |jB (d:Nat)|pX (lo hi:Int)|arg (xs:List (Int×Nat)) (n:Nat)
noncomputable def AO.ctorIdx(x:AO):Nat:=AO.casesOn x (fun _=>0) (fun _=>1) (fun _ _=>2) (fun _=>3) (fun _ _=>4) (fun _ _=>5) (fun _=>6) (fun _ _=>7) (fun _ _=>8)
abbrev Hp:=List AO
noncomputable def bQ:Nat:=1000000
def small:AO→Prop
 |.list xs=>xs.length<bQ
 |.tuple xs=>xs.length<bQ
 |.dict kvs _=>kvs.length<bQ
 |.dom xs _=>xs.length<bQ
 |.arg xs _=>xs.length<bQ
 |.pX lo hi=> -1000000<lo∧lo<1000000∧ -1000000<hi∧hi<1000000
 |_=>True
noncomputable instance(o:AO):Decidable (small o):=by cases o<;>unfold small<;>infer_instance
set_option genCtorIdx false in
inductive Tt(u:Unit) where
 |add|sub|mod|fdiv|pow
abbrev Bop:=Tt ()
noncomputable def Tt.ctorIdx{u:Unit}(x:Tt u):Nat:=Tt.casesOn x 0 1 2 3 4
set_option genCtorIdx false in
inductive Tu(u:Unit) where
 |eq|ne|lt|gt|is|Mm|EE|nin
abbrev Cop:=Tu ()
noncomputable def Tu.ctorIdx{u:Unit}(x:Tu u):Nat:=Tu.casesOn x 0 1 2 3 4 5 6 7
set_option genCtorIdx false in
inductive Meth where
 |append|pop|extend|remove|index|sort
 |get|copy|values|clear
 |fn (f:List Fn) --a method of the acT own classes,by what it may be
noncomputable def Meth.ctorIdx(x:Meth):Nat:=Meth.casesOn x 0 1 2 3 4 5 6 7 8 9 (fun _=>10)
set_option genCtorIdx false in
mutual
inductive E where
 |var (i:Nat)|lit (a:AV)
 |list (es:EL)|tup (es:EL)|jC|C3 (k v:E)
 |bin (op:Bop) (a b:E)|neg (a:E)
 |cmp (op:Cop) (a b:E)
 |not (a:E)|and(a b:E)|or(a b:E)|or3 (a b c:E)|ite (t a b:E)
 |attr (o:E) (a:Attr)|clsName (o:E)
 |sub (o i:E)|upTo (o k:E)|all (o:E)|from(o k:E)
 |call (f:E) (args:EL)|cQ (o:E) (m:Meth) (args:EL)|o9 (a b:E)
 |comp (elt:E) (t:Nat) (it:E)|fm (elt:E) (t:Nat) (it c:E)|zm (elt:E) (dw:Nat) (it₁:E) (dQ:Nat) (it₂:E)
inductive EL where
 |nil|cons (e:E) (r:EL)
end
noncomputable def E.ctorIdx(x:E):Nat:=E.casesOn x (fun _=>0) (fun _=>1) (fun _=>2) (fun _=>3) 4 (fun _ _=>5) (fun _ _ _=>6) (fun _=>7) (fun _ _ _=>8) (fun _=>9) (fun _ _=>10) (fun _ _=>11) (fun _ _ _=>12) (fun _ _ _=>13) (fun _ _=>14) (fun _=>15) (fun _ _=>16) (fun _ _=>17) (fun _=>18) (fun _ _=>19) (fun _ _=>20) (fun _ _ _=>21) (fun _ _=>22) (fun _ _ _=>23) (fun _ _ _ _=>24) (fun _ _ _ _ _=>25)
noncomputable def EL.ctorIdx(x:EL):Nat:=EL.casesOn x 0 (fun _ _=>1)
set_option genCtorIdx false in
inductive Mp where
 |one (i:Nat)|many (is:List Nat)
noncomputable def Mp.ctorIdx(x:Mp):Nat:=Mp.casesOn x (fun _=>0) (fun _=>1)
set_option genCtorIdx false in
mutual
inductive S where
 |expr (e:E)|ret (e:E)|MM
 |asg (i:Nat) (e:E)|jn (o:E) (a:Attr) (e:E)|lg (o k e:E)|kD (is:List Nat) (e:E)
 |tP (o k:E)|tQ (o:E)|vq (o k:E)
 |for (t:Mp) (it:E) (body orelse:SL)
 |while (t:E) (body orelse:SL)
 |if(t:E) (a b:SL)
 |raise (x:Ex) (msg:E)
 |try (body:SL) (hs:HL)
 |brk|pass|junk
 |yield (e:E)
inductive SL where
 |nil|cons (s:S) (r:SL)
inductive HL where
 |nil|cons (x:Ex) (b:SL) (r:HL)
end
noncomputable def S.ctorIdx(x:S):Nat:=S.casesOn x (fun _=>0) (fun _=>1) 2 (fun _ _=>3) (fun _ _ _=>4) (fun _ _ _=>5) (fun _ _=>6) (fun _ _=>7) (fun _=>8) (fun _ _=>9) (fun _ _ _ _=>10) (fun _ _ _=>11) (fun _ _ _=>12) (fun _ _=>13) (fun _ _=>14) 15 16 17 (fun _=>18)
noncomputable def SL.ctorIdx(x:SL):Nat:=SL.casesOn x 0 (fun _ _=>1)
noncomputable def HL.ctorIdx(x:HL):Nat:=HL.casesOn x 0 (fun _ _ _=>1)
noncomputable def keyOk:AV→Bool
 |.str _=>true
 |.int _=>true
 |_=>false
noncomputable def dJ(k:AV):List (AV×AV)→Option AV
 |[]=>none
 |(k',v)::r=>if k'=k then some v else dJ k r
noncomputable def dput(k v:AV):List (AV×AV)→List (AV×AV)
 |[]=>[(k,v)]
 |(k',v')::r=>if k'=k then(k',v)::r else(k',v')::dput k v r
noncomputable def yx(k:AV):List (AV×AV)→List (AV×AV)
 |[]=>[]
 |(k',v')::r=>if k'=k then r else(k',v')::yx k r
noncomputable def abN:List String:=["Tried to insert duplicated variable %s", "%s is an abstract class", "%s provides only a single solution", "%s doesn't provide iteration"]
noncomputable def rz(x:Str):Bool:=abN.any fun f=>av f==x
noncomputable def idx(i:Int)(xs:List AV):Option AV:=
 if 0≤i then xs[i.toNat]? else if -(xs.length:Int)≤i then xs[(i+xs.length).toNat]? else none
noncomputable def vQ(xs:List (Int×Nat)):List AV:=xs.map fun p=>.int p.1
noncomputable def upd(lm:LM)(i:Nat)(v:AV):LM:=lm.set i (some v)
noncomputable def tR(lm:LM):List Nat→List AV→Option LM
 |[],[]=>some lm
 |i::is,v::vs=>tR (upd lm i v) is vs
 |_,_=>none
noncomputable def strLt(a b:Str):Bool:=decide (a.cps.toList<b.cps.toList)
noncomputable def cL:List Int→List Int→Bool
 |[],[]=>false
 |[],_::_=>true
 |_::_,[]=>false
 |a::as,b::bs=>if a=b then cL as bs else decide (a<b)
noncomputable def ins{α:Type}(lt:α→α→Bool)(x:α):List α→List α
 |[]=>[x]
 |y::ys=>if lt x y then x::y::ys else y::ins lt x ys
noncomputable def cJ{α:Type}(lt:α→α→Bool):List α→List α
 |[]=>[]
 |x::xs=>ins lt x (cJ lt xs)
noncomputable def ie(x y:Int×Int×Str):Bool:=
 if x.1=y.1 then(if x.2.1=y.2.1 then strLt x.2.2 y.2.2 else decide (x.2.1<y.2.1))else decide (x.1<y.1)
noncomputable def GL(c d:vN):Bool:=decide (c=d)||(match c,d with
 |.backtracking,.solver=>true
 |.recursive,.solver=>true
 |.dN,.constraint=>true
 |_,_=>false)
noncomputable def fget(a:Attr):List (Attr×AV)→Option AV
 |[]=>none
 |(b,v)::r=>if b=a then some v else fget a r
noncomputable def vR(a:Attr)(v:AV):List (Attr×AV)→List (Attr×AV)
 |[]=>[(a,v)]
 |(b,w)::r=>if b=a then(b,v)::r else(b,w)::vR a v r
set_option genCtorIdx false in
inductive MK where
 |seq|dict|fn (f:Fn)
noncomputable def MK.ctorIdx(x:MK):Nat:=MK.casesOn x 0 1 (fun _=>2)
noncomputable def pO:Meth→Bool
 |.append=>true|.pop=>true|.extend=>true|.remove=>true|.index=>true|.sort=>true
 |_=>false
noncomputable def rS:Meth→Bool
 |.get=>true|.copy=>true|.values=>true|.clear=>true
 |_=>false
set_option genCtorIdx false in
inductive Fl where
 |next|brk|ret (v:AV)|exc (e:Ex)
noncomputable def Fl.ctorIdx(x:Fl):Nat:=Fl.casesOn x 0 1 (fun _=>2) (fun _=>3)
theorem Pa(h:a=k):dJ k ((a,b)::r)=some b:=aF h
theorem Pg(h:a≠k):dJ k ((a,b)::r)=dJ k r:=au h
theorem Ph(h:a=k):dput k v ((a,b)::r)=(a,v)::r:=aF h
theorem Pj(h:a≠k):dput k v ((a,b)::r)=(a,b)::dput k v r:=au h
theorem Pk(h:a=k):yx k ((a,b)::r)=r:=aF h
theorem Pn(h:a≠k):yx k ((a,b)::r)=(a,b)::yx k r:=au h
theorem Yv(h:a=k):fget k ((a,b)::r)=some b:=aF h
theorem Yw(h:a≠k):fget k ((a,b)::r)=fget k r:=au h
theorem Pp(h:a=k):vR k v ((a,b)::r)=(a,v)::r:=aF h
theorem Pq(h:a≠k):vR k v ((a,b)::r)=(a,b)::vR k v r:=au h
theorem CI(h:a=b):cL (a::as) (b::bs)=cL as bs:=aF h
theorem uU(h:a≠b):cL (a::as) (b::bs)=decide (a<b):=au h
theorem Wl(h:lt x y=true):ins lt x (y::ys)=x::y::ys:=aF h
theorem Wm(h:¬lt x y=true):ins lt x (y::ys)=y::ins lt x ys:=au h
end
noncomputable section
open PySem (Str)
noncomputable def TR:SL:=(.cons (.jn (.var 0) .solver (.or (.var 1) (.call (.lit (.glob (.cls .backtracking))) .nil)))
  (.cons (.jn (.var 0) .constraints (.list .nil))
  (.cons (.jn (.var 0) .eE .jC)
  .nil)))
noncomputable def Qt:SL:=(.cons (.tQ (.attr (.var 0) .constraints))
  (.cons (.expr (.cQ (.attr (.var 0) .eE) .clear .nil))
  .nil))
noncomputable def BU:SL:=(.cons (.ret (.attr (.var 0) .solver))
  .nil)
noncomputable def yd:SL:=(.cons (.if (.cmp .EE (.var 1) (.attr (.var 0) .eE))
  (.cons (.asg 3 (.bin .mod (.lit (.str (PySem.Str.ofString "Tried to insert duplicated variable %s"))) (.call (.lit (.glob .repr)) (.cons (.var 1) .nil))))
  (.cons (.raise .value (.var 3))
  .nil))
  .nil)
  (.cons (.if (.call (.lit (.glob .isinstance)) (.cons (.var 2) (.cons (.tup (.cons (.lit (.glob .list)) (.cons (.lit (.glob .tuple)) .nil))) .nil)))
  (.cons (.asg 2 (.call (.lit (.glob (.cls .domain))) (.cons (.var 2) .nil)))
  .nil)
  (.cons (.asg 3 (.lit (.str (PySem.Str.ofString "Domains must be instances of subclasses of the Domain class"))))
  (.cons (.raise .type (.var 3))
  .nil)))
  (.cons (.if (.not (.var 2))
  (.cons (.raise .value (.lit (.str (PySem.Str.ofString "Domain is empty"))))
  .nil)
  .nil)
  (.cons (.lg (.attr (.var 0) .eE) (.var 1) (.var 2))
  .nil))))
noncomputable def jR:SL:=(.cons (.for (.one 3) (.var 1)
  (.cons (.expr (.cQ (.var 0) (.fn [.cz]) (.cons (.var 3) (.cons (.var 2) .nil))))
  .nil)
  .nil)
  .nil)
noncomputable def ud:SL:=(.cons (.if (.not (.call (.lit (.glob .isinstance)) (.cons (.var 1) (.cons (.lit (.glob (.cls .constraint))) .nil))))
  (.cons (.if (.call (.lit (.glob .callable)) (.cons (.var 1) .nil))
  (.cons .junk
  .nil)
  (.cons (.asg 3 (.lit (.str (PySem.Str.ofString "Constraints must be instances of subclasses of the Constraint class"))))
  (.cons (.raise .value (.var 3))
  .nil)))
  .nil)
  .nil)
  (.cons (.expr (.cQ (.attr (.var 0) .constraints) .append (.cons (.tup (.cons (.var 1) (.cons (.var 2) .nil))) .nil)))
  .nil))
noncomputable def ye:SL:=(.cons (.kD [1,2,3] (.cQ (.var 0) (.fn [.ig]) .nil))
  (.cons (.if (.not (.var 1))
  (.cons (.ret (.lit .none))
  .nil)
  .nil)
  (.cons (.ret (.cQ (.attr (.var 0) .solver) (.fn [.cT,.eH,.bl]) (.cons (.var 1) (.cons (.var 2) (.cons (.var 3) .nil)))))
  .nil)))
noncomputable def uZ:SL:=(.cons (.kD [1,2,3] (.cQ (.var 0) (.fn [.ig]) .nil))
  (.cons (.if (.not (.var 1))
  (.cons (.ret (.list .nil))
  .nil)
  .nil)
  (.cons (.ret (.cQ (.attr (.var 0) .solver) (.fn [.dZ,.d7,.aZ]) (.cons (.var 1) (.cons (.var 2) (.cons (.var 3) .nil)))))
  .nil)))
noncomputable def gI:SL:=(.cons (.asg 1 (.cQ (.attr (.var 0) .eE) .copy .nil))
  (.cons (.asg 2 (.call (.lit (.glob .list)) (.cons (.var 1) .nil)))
  (.cons (.asg 3 (.list .nil))
  (.cons (.for (.many [4,5]) (.attr (.var 0) .constraints)
  (.cons (.if (.not (.var 5))
  (.cons (.asg 5 (.var 2))
  .nil)
  .nil)
  (.cons (.expr (.cQ (.var 3) .append (.cons (.tup (.cons (.var 4) (.cons (.var 5) .nil))) .nil)))
  .nil))
  .nil)
  (.cons (.asg 6 .jC)
  (.cons (.for (.one 7) (.var 1)
  (.cons (.lg (.var 6) (.var 7) (.list .nil))
  .nil)
  .nil)
  (.cons (.for (.many [4,5]) (.var 3)
  (.cons (.for (.one 7) (.var 5)
  (.cons (.expr (.cQ (.sub (.var 6) (.var 7)) .append (.cons (.tup (.cons (.var 4) (.cons (.var 5) .nil))) .nil)))
  .nil)
  .nil)
  .nil)
  .nil)
  (.cons (.for (.many [4,5]) (.all (.var 3))
  (.cons (.expr (.cQ (.var 4) (.fn [.fW]) (.cons (.var 5) (.cons (.var 1) (.cons (.var 3) (.cons (.var 6) .nil))))))
  .nil)
  .nil)
  (.cons (.for (.one 8) (.cQ (.var 1) .values .nil)
  (.cons (.expr (.cQ (.var 8) (.fn [.gJ]) .nil))
  (.cons (.if (.not (.var 8))
  (.cons (.ret (.tup (.cons (.lit .none) (.cons (.lit .none) (.cons (.lit .none) .nil)))))
  .nil)
  .nil)
  .nil))
  .nil)
  (.cons (.ret (.tup (.cons (.var 1) (.cons (.var 3) (.cons (.var 6) .nil)))))
  .nil))))))))))
noncomputable def yf:SL:=(.cons (.asg 4 (.bin .mod (.lit (.str (PySem.Str.ofString "%s is an abstract class"))) (.clsName (.var 0))))
  (.cons (.raise .jm (.var 4))
  .nil))
noncomputable def vd:SL:=(.cons (.asg 4 (.bin .mod (.lit (.str (PySem.Str.ofString "%s provides only a single solution"))) (.clsName (.var 0))))
  (.cons (.raise .jm (.var 4))
  .nil))
noncomputable def qN:SL:=(.cons (.asg 4 (.bin .mod (.lit (.str (PySem.Str.ofString "%s doesn't provide iteration"))) (.clsName (.var 0))))
  (.cons (.raise .jm (.var 4))
  .nil))
noncomputable def TS:SL:=(.cons (.jn (.var 0) .cy (.var 1))
  .nil)
noncomputable def kT:SL:=(.cons (.asg 4 (.attr (.var 0) .cy))
  (.cons (.asg 5 .jC)
  (.cons (.asg 6 (.list .nil))
  .nil)))
noncomputable def C4:SL:=(.cons (.asg 8 (.comp (.tup (.cons (.neg (.call (.lit (.glob .len)) (.cons (.sub (.var 3) (.var 7)) .nil))) (.cons (.call (.lit (.glob .len)) (.cons (.sub (.var 1) (.var 7)) .nil)) (.cons (.var 7) .nil)))) 7 (.var 1)))
  (.cons (.expr (.cQ (.var 8) .sort .nil))
  .nil))
noncomputable def GN:E:=(.var 8)
noncomputable def C5:Nat:=9
noncomputable def jo:SL:=(.cons (.if (.cmp .nin (.sub (.var 9) (.neg (.lit (.int 1)))) (.var 5))
  (.cons (.asg 10 (.sub (.var 9) (.neg (.lit (.int 1)))))
  (.cons (.asg 11 (.all (.sub (.var 1) (.var 10))))
  (.cons (.if (.var 4)
  (.cons (.asg 13 (.fm (.sub (.var 1) (.var 12)) 12 (.var 1) (.and (.cmp .nin (.var 12) (.var 5)) (.cmp .ne (.var 12) (.var 10)))))
  .nil)
  (.cons (.asg 13 (.lit .none))
  .nil))
  (.cons .brk
  .nil))))
  .nil)
  .nil)
noncomputable def IZ:E:=(.cQ (.var 5) .copy .nil)
noncomputable def qj:SL:=(.cons (.if (.not (.var 6))
  (.cons .MM
  .nil)
  .nil)
  (.cons (.kD [10,11,13] (.cQ (.var 6) .pop .nil))
  (.cons (.if (.var 13)
  (.cons (.for (.one 14) (.var 13)
  (.cons (.expr (.cQ (.var 14) (.fn [.gO]) .nil))
  .nil)
  .nil)
  .nil)
  .nil)
  .nil)))
noncomputable def oK:SL:=(.cons (.while (.lit (.bool true))
  (.cons (.if (.not (.var 11))
  (.cons (.tP (.var 5) (.var 10))
  (.cons (.while (.var 6)
  (.cons (.kD [10,11,13] (.cQ (.var 6) .pop .nil))
  (.cons (.if (.var 13)
  (.cons (.for (.one 14) (.var 13)
  (.cons (.expr (.cQ (.var 14) (.fn [.gO]) .nil))
  .nil)
  .nil)
  .nil)
  .nil)
  (.cons (.if (.var 11)
  (.cons .brk
  .nil)
  .nil)
  (.cons (.tP (.var 5) (.var 10))
  .nil))))
  (.cons .MM
  .nil))
  .nil))
  .nil)
  (.cons (.lg (.var 5) (.var 10) (.cQ (.var 11) .pop .nil))
  (.cons (.if (.var 13)
  (.cons (.for (.one 14) (.var 13)
  (.cons (.expr (.cQ (.var 14) (.fn [.iD]) .nil))
  .nil)
  .nil)
  .nil)
  .nil)
  (.cons (.for (.many [15,16]) (.sub (.var 3) (.var 10))
  (.cons (.if (.not (.call (.var 15) (.cons (.var 16) (.cons (.var 1) (.cons (.var 5) (.cons (.var 13) .nil))))))
  (.cons .brk
  .nil)
  .nil)
  .nil)
  (.cons .brk
  .nil))
  (.cons (.if (.var 13)
  (.cons (.for (.one 14) (.var 13)
  (.cons (.expr (.cQ (.var 14) (.fn [.gO]) .nil))
  .nil)
  .nil)
  .nil)
  .nil)
  .nil)))))
  .nil)
  (.cons (.expr (.cQ (.var 6) .append (.cons (.tup (.cons (.var 10) (.cons (.var 11) (.cons (.var 13) .nil)))) .nil)))
  .nil))
noncomputable def TU:SL:=(.cons (.jn (.var 0) .cy (.var 1))
  .nil)
noncomputable def TV:SL:=(.cons (.expr (.o9 (.var 0) (.var 1)))
  (.cons (.jn (.var 0) .hidden (.list .nil))
  (.cons (.jn (.var 0) .fh (.list .nil))
  .nil)))
noncomputable def yH:SL:=(.cons (.expr (.cQ (.var 0) .extend (.cons (.attr (.var 0) .hidden) .nil)))
  (.cons (.tQ (.attr (.var 0) .hidden))
  (.cons (.tQ (.attr (.var 0) .fh))
  .nil)))
noncomputable def BV:SL:=(.cons (.expr (.cQ (.attr (.var 0) .fh) .append (.cons (.call (.lit (.glob .len)) (.cons (.var 0) .nil)) .nil)))
  .nil)
noncomputable def D6:SL:=(.cons (.asg 1 (.bin .sub (.cQ (.attr (.var 0) .fh) .pop .nil) (.call (.lit (.glob .len)) (.cons (.var 0) .nil))))
  (.cons (.if (.var 1)
  (.cons (.expr (.cQ (.var 0) .extend (.cons (.from (.attr (.var 0) .hidden) (.neg (.var 1))) .nil)))
  (.cons (.vq (.attr (.var 0) .hidden) (.neg (.var 1)))
  .nil))
  .nil)
  .nil))
noncomputable def BW:SL:=(.cons (.expr (.cQ (.var 0) .remove (.cons (.var 1) .nil)))
  (.cons (.expr (.cQ (.attr (.var 0) .hidden) .append (.cons (.var 1) .nil)))
  .nil))
noncomputable def qn:SL:=(.cons (.if (.cmp .eq (.call (.lit (.glob .len)) (.cons (.var 1) .nil)) (.lit (.int 1)))
  (.cons (.asg 5 (.sub (.var 1) (.lit (.int 0))))
  (.cons (.asg 6 (.sub (.var 2) (.var 5)))
  (.cons (.for (.one 7) (.all (.var 6))
  (.cons (.if (.not (.call (.var 0) (.cons (.var 1) (.cons (.var 2) (.cons (.C3 (.var 5) (.var 7)) (.cons (.lit (.bool false)) .nil))))))
  (.cons (.expr (.cQ (.var 6) .remove (.cons (.var 7) .nil)))
  .nil)
  .nil)
  .nil)
  .nil)
  (.cons (.expr (.cQ (.var 3) .remove (.cons (.tup (.cons (.var 0) (.cons (.var 1) .nil))) .nil)))
  (.cons (.expr (.cQ (.sub (.var 4) (.var 5)) .remove (.cons (.tup (.cons (.var 0) (.cons (.var 1) .nil))) .nil)))
  .nil)))))
  .nil)
  .nil)
noncomputable def Bk:SL:=(.cons (.asg 6 .jC)
  (.cons (.for (.one 7) (.var 1)
  (.cons (.asg 8 (.cQ (.var 3) .get (.cons (.var 7) (.cons (.var 5) .nil))))
  (.cons (.if (.cmp .Mm (.var 8) (.var 5))
  (.cons (.if (.cmp .EE (.var 8) (.var 6))
  (.cons (.ret (.lit (.bool false)))
  .nil)
  .nil)
  (.cons (.lg (.var 6) (.var 8) (.lit (.bool true)))
  .nil))
  .nil)
  .nil))
  .nil)
  (.cons (.if (.var 4)
  (.cons (.for (.one 7) (.var 1)
  (.cons (.if (.cmp .nin (.var 7) (.var 3))
  (.cons (.asg 9 (.sub (.var 2) (.var 7)))
  (.cons (.for (.one 8) (.var 6)
  (.cons (.if (.cmp .EE (.var 8) (.var 9))
  (.cons (.expr (.cQ (.var 9) (.fn [.gH]) (.cons (.var 8) .nil)))
  (.cons (.if (.not (.var 9))
  (.cons (.ret (.lit (.bool false)))
  .nil)
  .nil)
  .nil))
  .nil)
  .nil)
  .nil)
  .nil))
  .nil)
  .nil)
  .nil)
  .nil)
  .nil)
  (.cons (.ret (.lit (.bool true)))
  .nil))))
noncomputable def Di:SL:=(.cons (.try (.cons (.expr (.cQ (.var 0) (.fn [.cz]) (.cons (.var 1) (.cons (.var 2) .nil))))
  (.cons (.ret (.lit (.str (PySem.Str.ofString "added"))))
  .nil))
  (.cons .value (.cons (.ret (.lit (.str (PySem.Str.ofString "value"))))
  .nil)
  (.cons .type (.cons (.ret (.lit (.str (PySem.Str.ofString "type"))))
  .nil)
  .nil)))
  .nil)
noncomputable def Bl:SL:=(.cons (.if (.cmp .eq (.var 0) (.list .nil))
  (.cons (.ret (.list .nil))
  .nil)
  .nil)
  (.cons (.asg 3 (.list (.cons (.list .nil) .nil)))
  (.cons (.for (.one 4) (.var 0)
  (.cons (.asg 3 (.zm (.bin .add (.var 5) (.list (.cons (.var 6) .nil))) 5 (.var 3) 6 (.sub (.var 1) (.var 4))))
  .nil)
  .nil)
  (.cons (.for (.one 7) (.var 2)
  (.cons (.asg 9 (.comp (.cQ (.var 0) .index (.cons (.var 8) .nil)) 8 (.var 7)))
  (.cons (.asg 3 (.fm (.var 10) 10 (.var 3) (.or (.cmp .lt (.call (.lit (.glob .len)) (.cons (.var 9) .nil)) (.lit (.int 2))) (.cmp .eq (.fm (.var 11) 11 (.var 9) (.cmp .ne (.fm (.var 12) 12 (.var 9) (.and (.cmp .ne (.var 12) (.var 11)) (.cmp .eq (.sub (.var 10) (.var 12)) (.sub (.var 10) (.var 11))))) (.list .nil))) (.list .nil)))))
  .nil))
  .nil)
  (.cons (.ret (.call (.lit (.glob .sorted)) (.cons (.var 3) .nil)))
  .nil)))))
noncomputable def xR:SL:=(.cons (.try (.cons (.if (.cmp .eq (.var 1) (.lit (.int 0)))
  (.cons (.expr (.cQ (.var 0) (.fn [.cT,.eH,.bl]) (.cons .jC (.cons (.list .nil) (.cons .jC .nil)))))
  .nil)
  (.cons (.if (.cmp .eq (.var 1) (.lit (.int 1)))
  (.cons (.expr (.cQ (.var 0) (.fn [.dZ,.d7,.aZ]) (.cons .jC (.cons (.list .nil) (.cons .jC .nil)))))
  .nil)
  (.cons (.expr (.cQ (.var 0) (.fn [.dj,.aK]) (.cons .jC (.cons (.list .nil) (.cons .jC .nil)))))
  .nil))
  .nil))
  (.cons (.ret (.lit (.bool false)))
  .nil))
  (.cons .jm (.cons (.ret (.lit (.bool true)))
  .nil)
  .nil))
  .nil)
noncomputable def Wn:SL:=(.cons (.asg 1 (.call (.lit (.glob (.cls .problem))) .nil))
  (.cons (.asg 2 (.list .nil))
  (.cons (.asg 3 .jC)
  (.cons (.asg 4 (.list .nil))
  (.cons (.asg 5 (.list .nil))
  (.cons (.for (.one 6) (.ite (.var 0) (.upTo (.var 0) (.lit (.int 8))) (.list (.cons (.lit (.int 1)) (.cons (.lit (.int 41)) (.cons (.lit (.int 2)) (.cons (.lit (.int 8)) .nil))))))
  (.cons (.asg 7 (.bin .mod (.var 6) (.lit (.int 8))))
  (.cons (.asg 8 (.bin .fdiv (.var 6) (.lit (.int 8))))
  (.cons (.asg 9 (.sub (.list (.cons (.lit (.str (PySem.Str.ofString "a"))) (.cons (.lit (.str (PySem.Str.ofString "b"))) (.cons (.lit (.str (PySem.Str.ofString "c"))) .nil)))) (.bin .mod (.var 8) (.lit (.int 3)))))
  (.cons (.asg 11 (.fm (.var 10) 10 (.call (.lit (.glob .range)) (.cons (.lit (.int 1)) (.cons (.lit (.int 3)) .nil))) (.cmp .eq (.bin .mod (.bin .fdiv (.bin .add (.lit (.int 1)) (.bin .fdiv (.var 8) (.lit (.int 4)))) (.bin .pow (.lit (.int 2)) (.bin .sub (.var 10) (.lit (.int 1))))) (.lit (.int 2))) (.lit (.int 1)))))
  (.cons (.if (.cmp .lt (.var 7) (.lit (.int 4)))
  (.cons (.asg 12 (.sub (.list (.cons (.var 11) (.cons (.call (.lit (.glob .tuple)) (.cons (.var 11) .nil)) (.cons (.call (.lit (.glob (.cls .domain))) (.cons (.var 11) .nil)) (.cons (.var 11) .nil))))) (.var 7)))
  (.cons (.asg 13 (.lit (.str (PySem.Str.ofString "added"))))
  (.cons (.if (.or (.cmp .EE (.var 9) (.var 2)) (.cmp .eq (.var 11) (.list .nil)))
  (.cons (.asg 13 (.lit (.str (PySem.Str.ofString "value"))))
  .nil)
  .nil)
  (.cons (.if (.cmp .ne (.call (.lit (.glob (.fn .jk))) (.cons (.var 1) (.cons (.var 9) (.cons (.var 12) .nil)))) (.var 13))
  (.cons (.ret (.lit (.bool false)))
  .nil)
  .nil)
  (.cons (.if (.cmp .eq (.var 13) (.lit (.str (PySem.Str.ofString "added"))))
  (.cons (.expr (.cQ (.var 2) .append (.cons (.var 9) .nil)))
  (.cons (.lg (.var 3) (.var 9) (.call (.lit (.glob .list)) (.cons (.var 11) .nil)))
  .nil))
  .nil)
  (.cons (.if (.cmp .eq (.var 7) (.lit (.int 2)))
  (.cons (.expr (.cQ (.var 5) .append (.cons (.tup (.cons (.var 12) (.cons (.call (.lit (.glob .list)) (.cons (.var 11) .nil)) .nil))) .nil)))
  .nil)
  (.cons (.if (.cmp .eq (.var 7) (.lit (.int 3)))
  (.cons (.expr (.cQ (.var 11) .append (.cons (.lit (.int 9)) .nil)))
  .nil)
  .nil)
  .nil))
  .nil))))))
  (.cons (.if (.cmp .eq (.var 7) (.lit (.int 4)))
  (.cons (.if (.cmp .ne (.call (.lit (.glob (.fn .jk))) (.cons (.var 1) (.cons (.var 9) (.cons (.var 8) .nil)))) (.ite (.cmp .EE (.var 9) (.var 2)) (.lit (.str (PySem.Str.ofString "value"))) (.lit (.str (PySem.Str.ofString "type")))))
  (.cons (.ret (.lit (.bool false)))
  .nil)
  .nil)
  .nil)
  (.cons (.if (.and (.cmp .eq (.var 7) (.lit (.int 5))) (.cmp .ne (.var 2) (.list .nil)))
  (.cons (.asg 14 (.ite (.and (.cmp .eq (.bin .mod (.var 8) (.lit (.int 2))) (.lit (.int 1))) (.cmp .gt (.bin .mod (.var 8) (.call (.lit (.glob .len)) (.cons (.var 2) .nil))) (.lit (.int 0)))) (.list (.cons (.sub (.var 2) (.lit (.int 0))) (.cons (.sub (.var 2) (.bin .mod (.var 8) (.call (.lit (.glob .len)) (.cons (.var 2) .nil)))) .nil))) (.call (.lit (.glob .list)) (.cons (.var 2) .nil))))
  (.cons (.expr (.cQ (.var 1) (.fn [.dI]) (.cons (.call (.lit (.glob (.cls .dN))) .nil) (.cons (.var 14) .nil))))
  (.cons (.expr (.cQ (.var 4) .append (.cons (.var 14) .nil)))
  .nil)))
  (.cons (.if (.cmp .eq (.var 7) (.lit (.int 6)))
  (.cons (.try (.cons (.expr (.cQ (.var 1) (.fn [.dI]) (.cons (.var 8) .nil)))
  (.cons (.ret (.lit (.bool false)))
  .nil))
  (.cons .value (.cons .pass
  .nil)
  .nil))
  .nil)
  (.cons (.if (.and (.cmp .eq (.var 7) (.lit (.int 7))) (.cmp .eq (.bin .mod (.var 8) (.lit (.int 3))) (.lit (.int 0))))
  (.cons (.expr (.cQ (.var 1) (.fn [.qC]) .nil))
  (.cons (.asg 2 (.list .nil))
  (.cons (.asg 4 (.list .nil))
  .nil)))
  (.cons (.if (.cmp .eq (.var 7) (.lit (.int 7)))
  (.cons (.asg 16 (.fm (.var 15) 15 (.list (.cons (.lit (.str (PySem.Str.ofString "c"))) (.cons (.var 9) (.cons (.lit (.str (PySem.Str.ofString "a"))) .nil)))) (.cmp .ne (.var 11) (.list .nil))))
  (.cons (.asg 17 (.lit (.bool false)))
  (.cons (.for (.one 18) (.call (.lit (.glob .range)) (.cons (.call (.lit (.glob .len)) (.cons (.var 16) .nil)) .nil))
  (.cons (.if (.or (.cmp .EE (.sub (.var 16) (.var 18)) (.var 2)) (.cmp .EE (.sub (.var 16) (.var 18)) (.upTo (.var 16) (.var 18))))
  (.cons (.asg 16 (.upTo (.var 16) (.var 18)))
  (.cons (.asg 17 (.lit (.bool true)))
  (.cons .brk
  .nil)))
  .nil)
  .nil)
  .nil)
  (.cons (.try (.cons (.expr (.cQ (.var 1) (.fn [.dY]) (.cons (.list (.cons (.lit (.str (PySem.Str.ofString "c"))) (.cons (.var 9) (.cons (.lit (.str (PySem.Str.ofString "a"))) .nil)))) (.cons (.var 11) .nil))))
  (.cons (.if (.or (.var 17) (.cmp .eq (.var 11) (.list .nil)))
  (.cons (.ret (.lit (.bool false)))
  .nil)
  .nil)
  .nil))
  (.cons .value (.cons (.if (.and (.not (.var 17)) (.cmp .ne (.var 11) (.list .nil)))
  (.cons (.ret (.lit (.bool false)))
  .nil)
  .nil)
  .nil)
  .nil))
  (.cons (.for (.one 19) (.var 16)
  (.cons (.expr (.cQ (.var 2) .append (.cons (.var 19) .nil)))
  (.cons (.lg (.var 3) (.var 19) (.call (.lit (.glob .list)) (.cons (.var 11) .nil)))
  .nil))
  .nil)
  .nil)))))
  .nil)
  .nil))
  .nil))
  .nil))
  .nil))
  .nil))
  (.cons (.asg 13 (.call (.lit (.glob (.fn .ry))) (.cons (.var 2) (.cons (.var 3) (.cons (.var 4) .nil)))))
  (.cons (.asg 20 (.cQ (.var 1) (.fn [.dZ,.d7,.aZ]) .nil))
  (.cons (.if (.cmp .ne (.fm (.var 21) 21 (.var 20) (.cmp .ne (.call (.lit (.glob .sorted)) (.cons (.var 21) .nil)) (.call (.lit (.glob .sorted)) (.cons (.var 2) .nil)))) (.list .nil))
  (.cons (.ret (.lit (.bool false)))
  .nil)
  .nil)
  (.cons (.asg 12 (.call (.lit (.glob .sorted)) (.cons (.comp (.comp (.sub (.var 22) (.var 23)) 23 (.var 2)) 22 (.var 20)) .nil)))
  (.cons (.asg 24 (.cQ (.var 1) (.fn [.cT,.eH,.bl]) .nil))
  (.cons (.if (.or3 (.cmp .ne (.var 12) (.var 13)) (.cmp .ne (.cmp .is (.var 24) (.lit .none)) (.cmp .eq (.var 13) (.list .nil))) (.and (.cmp .Mm (.var 24) (.lit .none)) (.cmp .nin (.comp (.sub (.var 24) (.var 25)) 25 (.var 2)) (.var 13))))
  (.cons (.ret (.lit (.bool false)))
  .nil)
  .nil)
  (.cons (.if (.cmp .ne (.fm (.var 26) 26 (.var 5) (.cmp .ne (.call (.lit (.glob .list)) (.cons (.sub (.var 26) (.lit (.int 0))) .nil)) (.sub (.var 26) (.lit (.int 1))))) (.list .nil))
  (.cons (.ret (.lit (.bool false)))
  .nil)
  .nil)
  .nil))))))))))))
  .nil)
  (.cons (.if (.or (.not (.call (.lit (.glob .isinstance)) (.cons (.cQ (.var 1) (.fn [.iC]) .nil) (.cons (.lit (.glob (.cls .backtracking))) .nil)))) (.not (.call (.lit (.glob (.fn .gj))) (.cons (.call (.lit (.glob (.cls .recursive))) .nil) (.cons (.lit (.int 2)) .nil)))))
  (.cons (.ret (.lit (.bool false)))
  .nil)
  .nil)
  (.cons (.ret (.cmp .eq (.fm (.var 27) 27 (.call (.lit (.glob .range)) (.cons (.lit (.int 3)) .nil)) (.not (.call (.lit (.glob (.fn .gj))) (.cons (.call (.lit (.glob (.cls .solver))) .nil) (.cons (.var 27) .nil))))) (.list .nil)))
  .nil))))))))
structure FnI where
 slots:Nat
 params:Nat
 nQ:List AV
 body:SL
 names:List Str
noncomputable def oh:Fn→FnI
 |.uC=>⟨2,2,[.none],TR,[av "self",av "solver"]⟩
 |.qC=>⟨1,1,[],Qt,[av "self"]⟩
 |.iC=>⟨1,1,[],BU,[av "self"]⟩
 |.cz=>⟨4,3,[],yd,[av "self",av "variable",av "domain",av "msg"]⟩
 |.dY=>⟨4,3,[],jR,[av "self",av "variables",av "domain",av "variable"]⟩
 |.dI=>⟨4,3,[.none],ud,[av "self",av "constraint",av "variables",av "msg"]⟩
 |.cT=>⟨4,1,[],ye,[av "self",av "domains",av "constraints",av "vconstraints"]⟩
 |.dZ=>⟨4,1,[],uZ,[av "self",av "domains",av "constraints",av "vconstraints"]⟩
 |.ig=>⟨9,1,[],gI,[av "self",av "domains",av "allvariables",av "constraints",av "constraint",av "variables",av "vconstraints",av "variable",av "domain"]⟩
 |.eH=>⟨5,4,[],yf,[av "self",av "domains",av "constraints",av "vconstraints",av "msg"]⟩
 |.d7=>⟨5,4,[],vd,[av "self",av "domains",av "constraints",av "vconstraints",av "msg"]⟩
 |.dj=>⟨5,4,[],qN,[av "self",av "domains",av "constraints",av "vconstraints",av "msg"]⟩
 |.wk=>⟨2,2,[.bool true],TS,[av "self",av "forwardcheck"]⟩
 |.aK=>⟨17,4,[],.nil,[av "self",av "domains",av "constraints",av "vconstraints",av "forwardcheck",av "assignments",av "queue",av "variable",av "lst",av "item",av "variable",av "values",av "x",av "pushdomains",av "domain",av "constraint",av "variables"]⟩
 |.bl=>⟨4,4,[],.nil,[av "self",av "domains",av "constraints",av "vconstraints"]⟩
 |.aZ=>⟨4,4,[],.nil,[av "self",av "domains",av "constraints",av "vconstraints"]⟩
 |.wm=>⟨2,2,[.bool true],TU,[av "self",av "forwardcheck"]⟩
 |.ru=>⟨2,2,[],TV,[av "self",av "values"]⟩
 |.gJ=>⟨1,1,[],yH,[av "self"]⟩
 |.iD=>⟨1,1,[],BV,[av "self"]⟩
 |.gO=>⟨2,1,[],D6,[av "self",av "diff"]⟩
 |.gH=>⟨2,2,[],BW,[av "self",av "value"]⟩
 |.fW=>⟨8,5,[],qn,[av "self",av "variables",av "domains",av "constraints",av "vconstraints",av "variable",av "domain",av "value"]⟩
 |.aCall=>⟨10,6,[.bool false,.glob .unassigned],Bk,[av "self",av "variables",av "domains",av "assignments",av "forwardcheck",av "_unassigned",av "seen",av "variable",av "value",av "domain"]⟩
 |.jk=>⟨3,3,[],Di,[av "problem",av "name",av "given"]⟩
 |.ry=>⟨13,3,[],Bl,[av "names",av "values",av "apart",av "rows",av "name",av "row",av "value",av "pair",av "name",av "places",av "row",av "p",av "q"]⟩
 |.gj=>⟨2,2,[],xR,[av "solver",av "kind"]⟩
 |.Cu=>⟨28,1,[],Wn,[av "script",av "problem",av "names",av "values",av "apart",av "handed",av "number",av "kind",av "rest",av "name",av "value",av "given",av "told",av "due",av "pair",av "other",av "more",av "refused",av "k",av "other",av "found",av "one",av "one",av "other",av "first",av "other",av "pair",av "kind"]⟩
end
noncomputable section
open PySem (Str)
noncomputable def Mq(i:FnI)(as:List AV):Option LM:=
 if as.length≤i.params∧i.params≤as.length+i.nQ.length then
  some ((as++i.nQ.drop (i.nQ.length -(i.params -as.length))).map some++nO (i.slots -i.params) none)
 else none
end
universe u u0 u1 u2 u3 u4 u5 u6 u7 u8 u9
@[elab_as_elim] theorem aa {α:Sort u} {a b:α} {m:α→Prop} (e:a=b) (h:m b):m a:=by subst e;exact h
@[elab_as_elim] theorem ez {α:Sort u} {a b:α} {m:α→Prop} (e:b=a) (h:m b):m a:=by subst e;exact h
theorem iK{G:Prop}(h:p0∧p1)(k:p0→p1→G):G:=k h.1 h.2
theorem vS{G:Prop}(h:p0∧p1∧p2)(k:p0→p1→p2→G):G:=k h.1 h.2.1 h.2.2
theorem vU{G:Prop}(h:p0∧p1∧p2∧p3)(k:p0→p1→p2→p3→G):G:=k h.1 h.2.1 h.2.2.1 h.2.2.2
theorem eY{p0:yu→Prop}{G:Prop}(h:∃a0,p0 a0)(k:∀a0,p0 a0→G):G:=bB h fun a0 h0=>k a0 h0
theorem bE{p0 p1:yu→Prop}{G:Prop}(h:∃a0,p0 a0∧p1 a0)(k:∀a0,p0 a0→p1 a0→G):G:=bB h fun a0 h0=>k a0 h0.1 h0.2
theorem kZ{p0 p1 p2:yu→Prop}{G:Prop}(h:∃a0,p0 a0∧p1 a0∧p2 a0)(k:∀a0,p0 a0→p1 a0→p2 a0→G):G:=bB h fun a0 h0=>k a0 h0.1 h0.2.1 h0.2.2
theorem JZ{p0 p1 p2 p3:yu→Prop}{G:Prop}(h:∃a0,p0 a0∧p1 a0∧p2 a0∧p3 a0)(k:∀a0,p0 a0→p1 a0→p2 a0→p3 a0→G):G:=bB h fun a0 h0=>k a0 h0.1 h0.2.1 h0.2.2.1 h0.2.2.2
theorem Tv{p0 p1 p2 p3 p4:yu→Prop}{G:Prop}(h:∃a0,p0 a0∧p1 a0∧p2 a0∧p3 a0∧p4 a0)(k:∀a0,p0 a0→p1 a0→p2 a0→p3 a0→p4 a0→G):G:=bB h fun a0 h0=>k a0 h0.1 h0.2.1 h0.2.2.1 h0.2.2.2.1 h0.2.2.2.2
theorem XJ{p0:yu→EF→Prop}{G:Prop}(h:∃a0,∃a1,p0 a0 a1)(k:∀a0,∀a1,p0 a0 a1→G):G:=bB h fun a0 h0=>bB h0 fun a1 h1=>k a0 a1 h1
theorem qU{p0 p1:yu→EF→Prop}{G:Prop}(h:∃a0,∃a1,p0 a0 a1∧p1 a0 a1)(k:∀a0,∀a1,p0 a0 a1→p1 a0 a1→G):G:=bB h fun a0 h0=>bB h0 fun a1 h1=>k a0 a1 h1.1 h1.2
theorem jZ{p0 p1 p2:yu→EF→Prop}{G:Prop}(h:∃a0,∃a1,p0 a0 a1∧p1 a0 a1∧p2 a0 a1)(k:∀a0,∀a1,p0 a0 a1→p1 a0 a1→p2 a0 a1→G):G:=bB h fun a0 h0=>bB h0 fun a1 h1=>k a0 a1 h1.1 h1.2.1 h1.2.2
theorem acW{p0 p1 p2 p3:yu→EF→Prop}{G:Prop}(h:∃a0,∃a1,p0 a0 a1∧p1 a0 a1∧p2 a0 a1∧p3 a0 a1)(k:∀a0,∀a1,p0 a0 a1→p1 a0 a1→p2 a0 a1→p3 a0 a1→G):G:=bB h fun a0 h0=>bB h0 fun a1 h1=>k a0 a1 h1.1 h1.2.1 h1.2.2.1 h1.2.2.2
theorem abO{p0 p1 p2 p3 p4:yu→EF→Prop}{G:Prop}(h:∃a0,∃a1,p0 a0 a1∧p1 a0 a1∧p2 a0 a1∧p3 a0 a1∧p4 a0 a1)(k:∀a0,∀a1,p0 a0 a1→p1 a0 a1→p2 a0 a1→p3 a0 a1→p4 a0 a1→G):G:=bB h fun a0 h0=>bB h0 fun a1 h1=>k a0 a1 h1.1 h1.2.1 h1.2.2.1 h1.2.2.2.1 h1.2.2.2.2
theorem acX{p0 p1 p2 p3 p4 p5:yu→EF→Prop}{G:Prop}(h:∃a0,∃a1,p0 a0 a1∧p1 a0 a1∧p2 a0 a1∧p3 a0 a1∧p4 a0 a1∧p5 a0 a1)(k:∀a0,∀a1,p0 a0 a1→p1 a0 a1→p2 a0 a1→p3 a0 a1→p4 a0 a1→p5 a0 a1→G):G:=bB h fun a0 h0=>bB h0 fun a1 h1=>k a0 a1 h1.1 h1.2.1 h1.2.2.1 h1.2.2.2.1 h1.2.2.2.2.1 h1.2.2.2.2.2
theorem CJ{p0 p1:yu→EF→SD→Prop}{G:Prop}(h:∃a0,∃a1,∃a2,p0 a0 a1 a2∧p1 a0 a1 a2)(k:∀a0,∀a1,∀a2,p0 a0 a1 a2→p1 a0 a1 a2→G):G:=bB h fun a0 h0=>bB h0 fun a1 h1=>bB h1 fun a2 h2=>k a0 a1 a2 h2.1 h2.2
theorem J0{p0 p1 p2:yu→EF→SD→Prop}{G:Prop}(h:∃a0,∃a1,∃a2,p0 a0 a1 a2∧p1 a0 a1 a2∧p2 a0 a1 a2)(k:∀a0,∀a1,∀a2,p0 a0 a1 a2→p1 a0 a1 a2→p2 a0 a1 a2→G):G:=bB h fun a0 h0=>bB h0 fun a1 h1=>bB h1 fun a2 h2=>k a0 a1 a2 h2.1 h2.2.1 h2.2.2
theorem acY{p0 p1 p2 p3:yu→EF→SD→Prop}{G:Prop}(h:∃a0,∃a1,∃a2,p0 a0 a1 a2∧p1 a0 a1 a2∧p2 a0 a1 a2∧p3 a0 a1 a2)(k:∀a0,∀a1,∀a2,p0 a0 a1 a2→p1 a0 a1 a2→p2 a0 a1 a2→p3 a0 a1 a2→G):G:=bB h fun a0 h0=>bB h0 fun a1 h1=>bB h1 fun a2 h2=>k a0 a1 a2 h2.1 h2.2.1 h2.2.2.1 h2.2.2.2
theorem acZ{p0 p1 p2 p3 p4 p5:yu→EF→SD→Prop}{G:Prop}(h:∃a0,∃a1,∃a2,p0 a0 a1 a2∧p1 a0 a1 a2∧p2 a0 a1 a2∧p3 a0 a1 a2∧p4 a0 a1 a2∧p5 a0 a1 a2)(k:∀a0,∀a1,∀a2,p0 a0 a1 a2→p1 a0 a1 a2→p2 a0 a1 a2→p3 a0 a1 a2→p4 a0 a1 a2→p5 a0 a1 a2→G):G:=bB h fun a0 h0=>bB h0 fun a1 h1=>bB h1 fun a2 h2=>k a0 a1 a2 h2.1 h2.2.1 h2.2.2.1 h2.2.2.2.1 h2.2.2.2.2.1 h2.2.2.2.2.2
theorem abP{p0:yu→EF→SD→α3→Prop}{G:Prop}(h:∃a0,∃a1,∃a2,∃a3,p0 a0 a1 a2 a3)(k:∀a0,∀a1,∀a2,∀a3,p0 a0 a1 a2 a3→G):G:=bB h fun a0 h0=>bB h0 fun a1 h1=>bB h1 fun a2 h2=>bB h2 fun a3 h3=>k a0 a1 a2 a3 h3
theorem XK{p0 p1 p2 p3:yu→EF→SD→α3→Prop}{G:Prop}(h:∃a0,∃a1,∃a2,∃a3,p0 a0 a1 a2 a3∧p1 a0 a1 a2 a3∧p2 a0 a1 a2 a3∧p3 a0 a1 a2 a3)(k:∀a0,∀a1,∀a2,∀a3,p0 a0 a1 a2 a3→p1 a0 a1 a2 a3→p2 a0 a1 a2 a3→p3 a0 a1 a2 a3→G):G:=bB h fun a0 h0=>bB h0 fun a1 h1=>bB h1 fun a2 h2=>bB h2 fun a3 h3=>k a0 a1 a2 a3 h3.1 h3.2.1 h3.2.2.1 h3.2.2.2
theorem ac0{p0 p1 p2 p3 p4:yu→EF→SD→α3→Prop}{G:Prop}(h:∃a0,∃a1,∃a2,∃a3,p0 a0 a1 a2 a3∧p1 a0 a1 a2 a3∧p2 a0 a1 a2 a3∧p3 a0 a1 a2 a3∧p4 a0 a1 a2 a3)(k:∀a0,∀a1,∀a2,∀a3,p0 a0 a1 a2 a3→p1 a0 a1 a2 a3→p2 a0 a1 a2 a3→p3 a0 a1 a2 a3→p4 a0 a1 a2 a3→G):G:=bB h fun a0 h0=>bB h0 fun a1 h1=>bB h1 fun a2 h2=>bB h2 fun a3 h3=>k a0 a1 a2 a3 h3.1 h3.2.1 h3.2.2.1 h3.2.2.2.1 h3.2.2.2.2
theorem XM{p0 p1:yu→EF→SD→α3→α4→Prop}{G:Prop}(h:∃a0,∃a1,∃a2,∃a3,∃a4,p0 a0 a1 a2 a3 a4∧p1 a0 a1 a2 a3 a4)(k:∀a0,∀a1,∀a2,∀a3,∀a4,p0 a0 a1 a2 a3 a4→p1 a0 a1 a2 a3 a4→G):G:=bB h fun a0 h0=>bB h0 fun a1 h1=>bB h1 fun a2 h2=>bB h2 fun a3 h3=>bB h3 fun a4 h4=>k a0 a1 a2 a3 a4 h4.1 h4.2
theorem ac1{p0 p1 p2 p3 p4 p5:yu→EF→SD→α3→α4→Prop}{G:Prop}(h:∃a0,∃a1,∃a2,∃a3,∃a4,p0 a0 a1 a2 a3 a4∧p1 a0 a1 a2 a3 a4∧p2 a0 a1 a2 a3 a4∧p3 a0 a1 a2 a3 a4∧p4 a0 a1 a2 a3 a4∧p5 a0 a1 a2 a3 a4)(k:∀a0,∀a1,∀a2,∀a3,∀a4,p0 a0 a1 a2 a3 a4→p1 a0 a1 a2 a3 a4→p2 a0 a1 a2 a3 a4→p3 a0 a1 a2 a3 a4→p4 a0 a1 a2 a3 a4→p5 a0 a1 a2 a3 a4→G):G:=bB h fun a0 h0=>bB h0 fun a1 h1=>bB h1 fun a2 h2=>bB h2 fun a3 h3=>bB h3 fun a4 h4=>k a0 a1 a2 a3 a4 h4.1 h4.2.1 h4.2.2.1 h4.2.2.2.1 h4.2.2.2.2.1 h4.2.2.2.2.2
theorem ac2{p0 p1 p2:yu→EF→SD→α3→α4→α5→Prop}{G:Prop}(h:∃a0,∃a1,∃a2,∃a3,∃a4,∃a5,p0 a0 a1 a2 a3 a4 a5∧p1 a0 a1 a2 a3 a4 a5∧p2 a0 a1 a2 a3 a4 a5)(k:∀a0,∀a1,∀a2,∀a3,∀a4,∀a5,p0 a0 a1 a2 a3 a4 a5→p1 a0 a1 a2 a3 a4 a5→p2 a0 a1 a2 a3 a4 a5→G):G:=bB h fun a0 h0=>bB h0 fun a1 h1=>bB h1 fun a2 h2=>bB h2 fun a3 h3=>bB h3 fun a4 h4=>bB h4 fun a5 h5=>k a0 a1 a2 a3 a4 a5 h5.1 h5.2.1 h5.2.2
theorem abQ{p0 p1 p2 p3:yu→EF→SD→α3→α4→α5→Prop}{G:Prop}(h:∃a0,∃a1,∃a2,∃a3,∃a4,∃a5,p0 a0 a1 a2 a3 a4 a5∧p1 a0 a1 a2 a3 a4 a5∧p2 a0 a1 a2 a3 a4 a5∧p3 a0 a1 a2 a3 a4 a5)(k:∀a0,∀a1,∀a2,∀a3,∀a4,∀a5,p0 a0 a1 a2 a3 a4 a5→p1 a0 a1 a2 a3 a4 a5→p2 a0 a1 a2 a3 a4 a5→p3 a0 a1 a2 a3 a4 a5→G):G:=bB h fun a0 h0=>bB h0 fun a1 h1=>bB h1 fun a2 h2=>bB h2 fun a3 h3=>bB h3 fun a4 h4=>bB h4 fun a5 h5=>k a0 a1 a2 a3 a4 a5 h5.1 h5.2.1 h5.2.2.1 h5.2.2.2
theorem nx{P:Prop}(h:a∈([]:List α)):P:=nomatch h
theorem MB{P:α→Prop}:∀x∈([]:List α),P x:=nofun
theorem nt{P:Prop}(h:true=false):P:=nomatch h
theorem nf{P:Prop}(h:false=true):P:=nomatch h
theorem no1{P:Prop}(h:some a=none):P:=nomatch h
theorem Cv{P:Prop}(h:none=some a):P:=nomatch h
theorem no3{P:Prop}(h:a::l=[]):P:=nomatch h
section
open PySem PySem.W PyProof.Rows
abbrev Led:=List (ah×Obj)
noncomputable abbrev KK(w:bz):Frag:=Hd.fr w.params
noncomputable abbrev PG:Program:=PySem.Challenge.pw_al0018_01
noncomputable def fX:vN→ah
 |.problem=>110|.solver=>145|.backtracking=>186|.recursive=>225|.domain=>303|.constraint=>347|.dN=>395
noncomputable def vh:Fn→ah
 |.uC=>36|.qC=>43|.iC=>57|.cz=>64|.dY=>71|.dI=>79
 |.cT=>86|.dZ=>93|.ig=>107
 |.eH=>128|.d7=>135|.dj=>142
 |.wk=>164|.aK=>169|.bl=>176|.aZ=>183|.wm=>203
 |.ru=>272|.gJ=>279|.iD=>286|.gO=>293|.gH=>300
 |.fW=>336|.aCall=>392|.jk=>404|.ry=>409|.gj=>416|.Cu=>421
noncomputable def W7:Gl→Value
 |.len=>.builtin "len" |.list=>.type "list" |.tuple=>.type "tuple" |.sorted=>.builtin "sorted" |.isinstance=>.builtin "isinstance"
 |.callable=>.builtin "callable" |.repr=>.builtin "repr" |.range=>.type "range"
 |.cls c=>.ref (fX c)|.fn f=>.ref (vh f)|.unassigned=>.ref 257
noncomputable def attrS:Attr→Str
 |.solver=>av "_solver" |.constraints=>av "_constraints" |.eE=>av "_variables"
 |.cy=>av "_forwardcheck" |.hidden=>av "_hidden" |.fh=>av "_states"
def VR(ρ:List ah):AV→Value→Prop
 |.none,v=>v=.none
 |.bool b,v=>v=.bool b
 |.int i,v=> ∃t,v=.int i t
 |.str s,v=> ∃t,v=.str s t
 |.CB big,v=> ∃s t,v=.str s t∧(big=false→s.length≤4096)
 |.glob g,v=>v=W7 g
 |.loc l,v=> ∃a,ρ[l]? =some a∧v=.ref a
theorem VR.mono(h:ρ<+:aV)(x:VR ρ a v):VR aV a v:=by
 cases a<;>first|exact x|skip
 refine bE (x) fun b hb fF=>?_;subst fF;refine eY (h) fun t JK=>?_;subst JK;refine⟨b,?_,rfl⟩;refine aa (oF (fU.mp hb).1) ?_;exact hb
inductive bh{α β:Type}(R:α→β→Prop):List α→List β→Prop
 |nil:bh R [] []
 |cons {a:α} {b:β} {as:List α} {bs:List β}:R a b→bh R as bs→bh R (a::as) (b::bs)
theorem fE{R S:α→β→Prop}(h:∀a b,R a b→S a b)(x:bh R xs ys):bh S xs ys:=by
 induction x with
 |nil=>exact .nil
 |cons a _ ih=>exact .cons (h _ _ a) ih
noncomputable def E2:AV→Value→Bool
 |.int i,v=>Value.isInt i v
 |.str s,v=>Value.isStrOf s v
 |_,_=>false
def ER(w:bz)(ρ:List ah)(kv:AV×AV)(e:gf):Prop:=
 E2 kv.1 e.key=true∧(e.hash=match kv.1 with|.int i=>(intKind PG w).hash i|.str s=>(strKind PG w).hash s|_=>0)∧VR ρ kv.2 e.val
def FR(ρ:List ah)(f:Attr×AV)(e:gf):Prop:=(∃t,e.key=.str (attrS f.1) t)∧VR ρ f.2 e.val
def OR0(w:bz)(ρ:List ah):AO→Obj→Prop
 |.list xs,o=> ∃vs n,o=⟨.type "list",none,.seq vs n, #[]⟩∧bh (VR ρ) xs vs.toList
 |.tuple xs,o=> ∃vs n,o=⟨.type "tuple",none,.seq vs n, #[]⟩∧bh (VR ρ) xs vs.toList
 |.dict kvs ep,o=> ∃es:List gf,o=dictOf es ep∧(kvs.map (·.1)).Nodup∧bh (ER w ρ) kvs es
 |.attrs fs,o=> ∃(es:List gf)(n:Nat),o=dictOf es n∧(fs.map (·.1)).Nodup∧bh (FR ρ) fs es
 |.inst c d,o=> ∃a,ρ[d]? =some a∧o=⟨.ref (fX c),some a,.plain, #[]⟩
 |.dom xs d,o=> ∃a vs n,ρ[d]? =some a∧o=⟨.ref (fX .domain),some a,.seq vs n, #[]⟩∧bh (VR ρ) xs vs.toList
 |.jB d,o=> ∃a,ρ[d]? =some a∧o=⟨.type "dict_values",none,.fields #[.ref a], #[]⟩
 |.arg xs n,o=>o=⟨.type "list",none,.seq (xs.map fun p=>Value.int p.1 p.2).toArray n, #[]⟩
 |.pX lo hi,o=> ∃dw dQ ac3,o=⟨.type "range",none,.fields #[.int lo dw,.int hi dQ,.int 1 ac3], #[]⟩
def OR(w:bz)(ρ:List ah)(a:AO)(o:Obj):Prop:=small a∧OR0 w ρ a o
theorem iu(h:ρ<+:aV){l:Nat}{a:ah}(x:ρ[l]? =some a):aV[l]? =some a:=by
 refine eY (h) fun t JK=>?_;subst JK;refine aa (oF (fU.mp x).1) ?_;exact x
theorem OR.mono{ρ aV:List ah}(h:ρ<+:aV)(x:OR w ρ a o):OR w aV a o:=by
 obtain⟨sm,x⟩:=x;refine⟨sm,?_⟩;cases a with
 |list xs=>obtain⟨vs,n,e,f⟩:=x;exact⟨vs,n,e,fE (fun _ _=>VR.mono h) f⟩
 |tuple xs=>obtain⟨vs,n,e,f⟩:=x;exact⟨vs,n,e,fE (fun _ _=>VR.mono h) f⟩
 |dict kvs ep=>obtain⟨es,e,d,f⟩:=x;exact⟨es,e,d,fE (fun _ _ y=>⟨y.1,y.2.1,y.2.2.mono h⟩) f⟩
 |attrs fs=>obtain⟨es,n,e,d,f⟩:=x;exact⟨es,n,e,d,fE (fun _ _ y=>⟨y.1,y.2.mono h⟩) f⟩
 |inst c d=>obtain⟨b,hb,e⟩:=x;exact⟨b,iu h hb,e⟩
 |dom xs d=>obtain⟨b,vs,n,hb,e,f⟩:=x;exact⟨b,vs,n,iu h hb,e,fE (fun _ _=>VR.mono h) f⟩
 |jB d=>obtain⟨b,hb,e⟩:=x;exact⟨b,iu h hb,e⟩
 |pX lo hi=>exact x
 |arg xs n=>exact x
theorem OR.vQ(x:OR w ρ (.arg xs n) o):OR w ρ (.list (qo.vQ xs)) o:=by
 obtain⟨sm,rfl⟩:=x;refine⟨(by show(jN _ xs).length<bQ;exact aa (bR _) sm),_,n,rfl,?_⟩;show bh (VR ρ) (qo.vQ xs) (xs.map fun p=>Value.int p.1 p.2);clear sm
 induction xs with
 |nil=>exact .nil
 |cons p xs ih=>exact .cons ⟨p.2,rfl⟩ ih
theorem OR.xo(x:OR w ρ a o):o.isFreed=false:=by
 obtain⟨sm,x⟩:=x;cases a with
 |list xs=>obtain⟨vs,n,rfl,f⟩:=x;rfl
 |tuple xs=>obtain⟨vs,n,rfl,f⟩:=x;rfl
 |dict kvs ep=>obtain⟨es,rfl,d,f⟩:=x;rfl
 |attrs fs=>obtain⟨es,n,rfl,d,f⟩:=x;rfl
 |inst c d=>obtain⟨b,hb,rfl⟩:=x;rfl
 |dom xs d=>obtain⟨b,vs,n,hb,rfl,f⟩:=x;rfl
 |jB d=>obtain⟨b,hb,rfl⟩:=x;rfl
 |pX lo hi=>obtain⟨_,_,_,rfl⟩:=x;rfl
 |arg xs n=>obtain rfl:=x;rfl
structure Lo where
 loc:Str→Option Value
 fs:List (ah×(Str→Option Value))
def CK(g:Heap)(L:ah)(h:Heap)(N:Led)(fs:List (ah×(Str→Option Value))):Prop:=
 ∀p∈fs,h.Ns p.1 p.2∧p.1≠L∧p.1∉N.map (·.1)∧g.get? p.1=none
def SE(a:ah):Prop:=a≠1∧a≠303
theorem Wo(h:421<a):SE a:=⟨fun e=>absurd (show 421<1 from e▸h) (by decide),fun e=>absurd (show 421<303 from e▸h) (by decide)⟩
structure St(g:Heap)(L:ah)(m:Lo)(h:Heap)(N:Led):Prop where
 fr:Fr g L h m.loc
 nw:dR g L h N
 nd:(N.map (·.1)).Nodup
 big:421<g.objs.size
 low:∀p∈N,SE p.1
 fs:CK g L h N m.fs
noncomputable def putN(a:ah)(ob:Obj)(N:Led):Led:=N.map fun p=>if p.1=a then(a,ob)else p
theorem gP(a:ah)(ob:Obj)(N:Led):(putN a ob N).map (·.1)=N.map (·.1):=by
 unfold putN;refine aa iM (wg fun p _=>?_);show(if p.1=a then(a,ob)else p).1=p.1
 split
 ·rename_i h;exact h.symm
 ·rfl
theorem eL(h:(a,o)∈N):(a,ob)∈putN a ob N:=
 bX.mpr ⟨(a,o),h,by simp⟩
theorem cH(h:(b,o)∈N)(hb:b≠a):(b,o)∈putN a ob N:=
 bX.mpr ⟨(b,o),h,by simp[hb]⟩
theorem iH(h:(b,o)∈putN a ob N):(b=a∧o=ob)∨(b≠a∧(b,o)∈N):=by
 refine bE (bX.mp h) fun p hp e=>?_
 by_cases q:p.1=a
 ·rw[aF q]at e;cases e;exact .inl ⟨rfl,rfl⟩
 ·rw[au q]at e;subst e;exact .inr ⟨q,hp⟩
theorem Qu{N:Led}(nd:(N.map (·.1)).Nodup)(h:(a,o)∈N)(h':(a,o')∈N):o=o':=by
 induction N with
 |nil=>cases h
 |cons p N ih=>
  rw[gC,dO]at nd;rcases bw.mp h with e|k
  ·subst e;rcases bw.mp h' with e|k'
   ·exact(O9 e).2.symm
   ·exact absurd (show(a,o').1∈N.map (·.1)from dF (f:=je) k') nd.1
  ·rcases bw.mp h' with e|k'
   ·subst e;exact absurd (show(a,o).1∈N.map (·.1)from dF (f:=je) k) nd.1
   ·exact ih nd.2 k k'
section
theorem zo{h:Heap}(x:h.Ns a m):a<h.objs.size:=by
 refine CJ (x) fun o es ep ho _=>?_;exact Heap.lt_size ho
theorem CK.grow(x:CK g L h N fs)(k:∀b o,h.get? b=some o→(∀p∈N,p.1≠b)→b≠L→g.get? b=none→h'.get? b=some o)
  (hN:∀p∈N',p∈N∨p.1∈N.map (·.1)∨h.objs.size≤p.1):CK g L h' N' fs:=fun p hp=>by
 obtain⟨⟨o,es,ep,ho,r⟩,h2,h3,h4⟩:=x p hp;refine⟨⟨o,es,ep,k _ _ ho (fun q hq e=>h3 (e▸dF (f:=je) hq)) h2 h4,r⟩,h2,fun q=>?_,h4⟩;refine bE (bX.mp q) fun q hq e=>?_;rcases hN q hq with z|z|z
 ·exact h3 (e▸dF (f:=je) z)
 ·exact h3 (e▸z)
 ·haveI e':q.1=p.1:=e;rw[e']at z;exact absurd (Heap.lt_size ho) (Nat.not_lt.mpr z)
variable{g h:Heap}{L:ah}{m:Lo}{N:Led}
theorem St.get(S:St g L m h N)(hm:(a,o)∈N):h.get? a=some o:=(S.nw _ hm).1
theorem St.iG(S:St g L m h N):h.objs.size∉N.map (·.1):=fun q=>by
 refine bE (bX.mp q) fun p hp e=>?_;haveI:=Heap.lt_size (S.nw p hp).1;haveI e':p.1=h.objs.size:=e;rw[e']at this;exact Nat.lt_irrefl _ this
theorem St.size(S:St g L m h N):421<h.objs.size:=by
 refine CJ (S.fr.ns) fun o es ep ho _=>?_;exact Nat.lt_trans (Nat.lt_of_lt_of_le S.big S.fr.above) (Heap.lt_size ho)
theorem rT(h:421<p.1)(l:∀p∈N,SE p.1):∀q∈p::N,SE q.1:=fun q hq=>by
 rcases bw.mp hq with rfl|hq
 ·exact Wo h
 ·exact l q hq
theorem vt(l:∀p∈N,SE p.1):∀q∈putN a ob N,SE q.1:=fun q hq=>by
 haveI:q.1∈(putN a ob N).map (·.1):=dF hq;rw[gP]at this;refine bE (bX.mp this) fun p hp e=>?_;exact ez e (l p hp)
theorem St.push(S:St g L m h N)(o:Obj)(hf:o.isFreed=false:=by rfl):St g L m (h.push o) ((h.objs.size,o)::N):=
 ⟨S.fr.push o,S.nw.push S.fr o hf,by rw[gC,dO];exact⟨S.iG,S.nd⟩,S.big,rT S.size S.low,
  S.fs.grow (fun b o e _ _ _=>Heap.get?_push_of_some _ e) fun p hp=>by
   rcases bw.mp hp with rfl|hp
   ·exact .inr (.inr (Nat.le_refl _))
   ·exact .inl hp⟩
theorem St.setAt(S:St g L m h N)(hm:(a,o)∈N)(hs:Heap.SameBut a h h')(e:h'.get? a=some ob):St g L m h' (putN a ob N):=by
 haveI D:=S.nw _ hm;refine⟨⟨S.fr.ns.sameBut hs (dg D.2.1),fun b x q=>(hs.2 b fun z=>?_).trans (S.fr.keep b x q),S.fr.above⟩,fun p hp=>?_,by rw[gP];exact S.nd,S.big,vt S.low,
  S.fs.grow (fun b o q hb _ _=>(hs.2 b fun z=>hb _ hm z.symm).trans q) fun p hp=>.inr (.inl (gP a ob N▸dF (f:=je) hp))⟩
 ·have:=D.2.2;rw[←z]at this;rw[this]at q;cases q
 ·obtain⟨b,x⟩:=p;rcases iH hp with⟨rfl,rfl⟩|⟨hb,hp⟩
  ·exact⟨e,D.2⟩
  ·haveI P:=S.nw _ hp;exact⟨(hs.2 b hb).trans P.1,P.2⟩
theorem St.grow(S:St g L m h N)(k:∀b o,h.get? b=some o→h'.get? b=some o):St g L m h' N:=
 ⟨⟨S.fr.ns.keeps k,fun b o e=>k b o (S.fr.keep b o e),S.fr.above⟩,fun p hp=>⟨k _ _ (S.nw p hp).1,(S.nw p hp).2⟩,S.nd,S.big,S.low,S.fs.grow (fun b o e _ _ _=>k b o e) fun p hp=>.inl hp⟩
theorem St.local(S:St g L m h N)(hn:h'.Ns L m')(hs:Heap.SameBut L h h'):St g L ⟨m',m.fs⟩ h' N:=
 ⟨S.fr.set hn hs,S.nw.set hs,S.nd,S.big,S.low,S.fs.grow (fun b o e _ hb _=>(hs.2 b hb).trans e) fun p hp=>.inl hp⟩
end
structure HX(w:bz)(ρ:List ah)(H:Hp)(X N:Led):Prop where
 len:ρ.length=H.length
 nd:ρ.Nodup
 ob:∀(l:Nat)(o:AO),H[l]? =some o→∃a ob,ρ[l]? =some a∧(a,ob)∈N∧OR w ρ o ob
 ext:∀p∈X,p∈N
 sep:∀p∈X,p.1∉ρ
section
variable{w:bz}{ρ:List ah}{H:Hp}{X N:Led}
theorem HX.push(D:HX w ρ H X N){o:AO}{ob:Obj}(hR:OR w ρ o ob)(ha:a∉N.map (·.1)):HX w (ρ++[a]) (H++[o]) X ((a,ob)::N):=by
 haveI na:a∉ρ:=fun q=>by
  obtain⟨i,hi,e⟩:=wR q;have VY:i<H.length:=D.len▸hi;refine jZ (D.ob i H[i] (jy VY)) fun b jJ e1 e2 _=>?_;rw[jy hi,e]at e1;cases e1;exact ha (dF (f:=je) e2)
 refine⟨by simp[D.len],?_,fun l x e=>?_,fun p hp=>.tail _ (D.ext p hp),fun p hp q=>?_⟩
 ·rw[oH];exact⟨D.nd,by simp,fun x hx y hy=>by refine aa (bO.mp hy) ?_;rintro rfl;exact na hx⟩
 ·by_cases hl:l<H.length
  ·rw[oF hl]at e;refine jZ (D.ob l x e) fun b jJ e1 e2 e3=>?_;exact⟨b,jJ,iu (fJ ..) e1,.tail _ e2,e3.mono (fJ ..)⟩
  ·haveI SG:l=H.length:=by
    haveI:=(fU.mp e).1;simp at this;lia
   subst SG;simp at e;subst e;exact⟨a,ob,by refine ez D.len ?_;simp,.head _,hR.mono (fJ ..)⟩
 ·rcases dc.mp q with q|q
  ·exact D.sep p hp q
  ·rw[bO]at q;exact ha (q▸dF (f:=je) (D.ext p hp))
theorem HX.inj(D:HX w ρ H X N){i j:Nat}(hi:ρ[i]? =some a)(hj:ρ[j]? =some a):i=j:=by
 refine eY (fU.mp hi) fun h1 e1=>?_;refine eY (fU.mp hj) fun h2 e2=>?_;exact(F4 D.nd).mp (e1.trans e2.symm)
theorem HX.set(D:HX w ρ H X N){l:Nat}{ob:Obj}(hl:ρ[l]? =some a)(hR:OR w ρ o ob):HX w ρ (H.set l o) X (putN a ob N):=by
 refine⟨by simp[D.len],D.nd,fun k x e=>?_,fun p hp=>?_,D.sep⟩
 ·by_cases hk:k=l
  ·subst hk;have kJ:k<H.length:=by
    haveI:=(fU.mp e).1
    simpa using this
   rw[mF kJ]at e;cases e;refine jZ (D.ob k H[k] (jy kJ)) fun b jJ e1 e2 _=>?_;rw[hl]at e1;cases e1;exact⟨a,ob,hl,eL e2,hR⟩
  ·rw[gZ (dg hk)]at e;refine jZ (D.ob k x e) fun b jJ e1 e2 e3=>?_;exact⟨b,jJ,e1,cH e2 (fun q=>hk (D.inj (q▸e1) hl)),e3⟩
 ·haveI na:p.1≠a:=fun q=>D.sep p hp (q▸uy hl);exact cH (o:=p.2) (D.ext p hp) na
theorem HX.lt(D:HX w ρ H X N){l:Nat}(hl:ρ[l]? =some a):∃o,H[l]? =some o:=by
 haveI:=(fU.mp hl).1;exact⟨H[l]'(D.len▸this),jy _⟩
end
noncomputable def CC:Ex→String
 |.value=> "ValueError" |.type=> "TypeError" |.jm=> "NotImplementedError"
inductive Bm(h:Heap)(e:ah)(cls:Value):Prop
 |mk (oe:Obj) (vs:Array Value) (a0:Value) (g:h.get? e=some oe) (c:oe.cls=cls) (d:oe.data=.fields vs) (e1:vs[1]? =some .none) (e0:vs[0]? =some a0)
structure qD(B:Heap)(l:List Env)(L e:ah)(cls:Value)(h:Heap):Prop where
 stays:B.StaysIn h
 new:B.get? e=none
 frames:h.FunFrames B l
 at_:(∃a0,h.TracedW B e cls a0)∨(∃a0,h.TracedAtW B e cls a0 (rawInt L))∨Bm h e cls
structure Cx where
 w:bz
 g:Heap
 L:ah
 m:Lo
 X:Led
 fr:List Env
inductive bf(C:Cx)(ρ:List ah)(H:Hp)(s:aB):Prop
 |mk (N:Led) (S:St C.g C.L C.m s.heap N) (D:HX C.w ρ H C.X N) (b:iA s.gens)
inductive yy(C:Cx)(ρ:List ah)(k:Ex)(H:Hp)(e:ah)(s:aB):Prop
 |mk (N:Led) (B:Heap) (S:St C.g C.L C.m s.heap N) (D:HX C.w ρ H C.X N) (b:iA s.gens) (gB:C.g.StaysIn B) (NB:∀q∈N,B.get? q.1=some q.2) (F:qD B C.fr C.L e (.type (CC k)) s.heap)
structure Go(ρ aV:List ah)(s s':aB):Prop where
 p:ρ<+:aV
 o:s'.os=s.os
 g:s.gens.size≤s'.gens.size
theorem Go.refl(ρ:List ah)(s:aB):Go ρ ρ s s:=⟨dz,rfl,Nat.le_refl _⟩
theorem Go.trans(x:Go ρ aV s s')(y:Go aV MN s' j8):Go ρ MN s j8:=⟨x.p.trans y.p,y.o.trans x.o,Nat.le_trans x.g y.g⟩
theorem Go.of(p:ρ<+:aV)(h:s'.gens=s.gens)(o:s'.os=s.os):Go ρ aV s s':=⟨p,o,h▸Nat.le_refl _⟩
theorem Go.toks(ρ:List ah)(s:aB)(h:Heap)(t:Nat):Go ρ ρ s {s with heap:=h,toks:=t}:=⟨dz,rfl,Nat.le_refl _⟩
abbrev sU(α β:Type):=List ah→α→β→Prop
abbrev VQ(β:Type):=β→aB→Prop
def Sm{α β:Type}(C:Cx)(A:aG)(ρ:List ah)(R:sU α β)(H:Hp)(a:α)(H':Hp)(t:Sem β):Prop:=
 ∀s,bf C ρ H s→∀Q E,(∀aV s' b,Go ρ aV s s'→bf C aV H' s'→R aV a b→Q b s')→wpAny (model PG C.w) A t Q E s
def Sx{β:Type}(C:Cx)(A:aG)(ρ:List ah)(H:Hp)(k:Ex)(H':Hp)(t:Sem β):Prop:=
 ∀s,bf C ρ H s→∀Q E,(∀aV s' e,Go ρ aV s s'→yy C aV k H' e s'→E (.ref e) s')→wpAny (model PG C.w) A t Q E s
section
variable{α β γ δ:Type}{C:Cx}{A:aG}{ρ:List ah}{R:sU α β}{R':sU γ δ}{H H1 H2:Hp}{a:α}{c:γ}{t:Sem β}{k:Ex}
theorem Sm.pure(h:R ρ a b):Sm C A ρ R H a H (jU b):=fun s n _ _ q=>aE (q ρ s b (.refl ρ s) n h)
theorem Sm.bind(x:Sm C A ρ R H a H1 t)(y:∀aV b,ρ<+:aV→R aV a b→Sm C A aV R' H1 c H2 (u b)):Sm C A ρ R' H c H2 (t>>=u):=
 fun s n _ _ q=>af (x s n _ _ fun VZ s1 b g n1 r=>y VZ b g.p r s1 n1 _ _ fun ρ2 s2 d g2 n2=>q ρ2 s2 d (g.trans g2) n2)
theorem Sm.map{f:β→δ}(x:Sm C A ρ R H a H1 t)(h:∀aV b,R aV a b→R' aV c (f b)):Sm C A ρ R' H c H1 (t>>=fun b=>jU (f b)):=x.bind fun aV b _ r=>.pure (h aV b r)
theorem Sm.standAt(x:Sm C A ρ R H a H1 (f ())):Sm C A ρ R H a H1 (PySem.standAt p>>=f):=fun s n _ _ q=>af (gz (x s n _ _ q))
theorem Sm.holding(x:Sm C A ρ R H a H1 t):Sm C A ρ R H a H1 (PySem.holding vs t):=fun s n _ _ q=>dB (x s n _ _ q)
theorem wp_operate{t:Sem Value}{E:VQ Value}(x:wpAny M A t Q E s):wpAny M A (PySem.operate vs t) Q E s:=fun Γ p hΓ=>(Sem.wp_operate ..).mpr (x Γ p hΓ)
theorem Sm.operate{R:sU α Value}{t:Sem Value}(x:Sm C A ρ R H a H1 t):Sm C A ρ R H a H1 (PySem.operate vs t):=fun s n _ _ q=>wp_operate (x s n _ _ q)
end
section
variable{C:Cx}{ρ:List ah}{H:Hp}{s s':aB}{G:Prop}
theorem bf.bare(n:bf C ρ H s):iA s.gens:=by cases n;assumption
theorem bf.at(n:bf C ρ H s){l:Nat}(hl:H[l]? =some o)(ha:ρ[l]? =some a):∃ob,s.heap.get? a=some ob∧OR C.w ρ o ob:=by
 obtain⟨N,S,D,_⟩:=n;exact(D.ob l o hl).elim fun b h=>h.elim fun ob h=>⟨ob,S.get ((kP (ha.symm.trans h.1))▸h.2.1),h.2.2⟩
theorem bf.length(n:bf C ρ H s):ρ.length=H.length:=by cases n with|mk N S D b=>exact D.len
theorem bf.base(n:bf C ρ H s)(e:C.g.get? b=some o):s.heap.get? b=some o:=by cases n with|mk N S D _=>exact S.fr.keep b o e
theorem bf.extra(n:bf C ρ H s)(h:p∈C.X):s.heap.get? p.1=some p.2:=by cases n with|mk N S D b=>exact S.get (D.ext p h)
theorem bf.ns(n:bf C ρ H s):s.heap.Ns C.L C.m.loc:=by cases n with|mk N S D b=>exact S.fr.ns
theorem bf.grow(n:bf C ρ H s)(k:∀b o,s.heap.get? b=some o→s'.heap.get? b=some o)(hg:s'.gens=s.gens):bf C ρ H s':=by cases n with|mk N S D b=>exact⟨N,S.grow k,D,hg▸b⟩
theorem bf.toks(n:bf C ρ H s)(t:Nat):bf C ρ H {s with toks:=t}:=n.grow (fun _ _ e=>e) rfl
theorem bf.push(n:bf C ρ H s)(hh:s'.heap=s.heap.push ob)(hg:s'.gens=s.gens)(hR:OR C.w ρ o ob):bf C (ρ++[s.heap.objs.size]) (H++[o]) s':=by
 cases n with|mk N S D b=>exact⟨_,hh▸S.push ob hR.xo,D.push hR S.iG,hg▸b⟩
theorem bf.vr(n:bf C ρ H s):VR (ρ++[a]) (.loc H.length) (.ref a):=⟨a,by rw[←n.length,FT (Nat.le_refl _),Nat.sub_self];rfl,rfl⟩
theorem bf.take(n:bf C ρ H s)(hX:C.X=X)(p:(a,ob)∈X)(hR:OR C.w ρ o ob):
  bf {C with X:=X.filter fun q=>decide (q.1≠a)} (ρ++[a]) (H++[o]) s:=by
 subst hX;obtain⟨N,S,D,b⟩:=n;haveI na:a∉ρ:=D.sep _ p;refine⟨N,S,⟨by simp[D.len],?_,fun l x e=>?_,fun q hq=>D.ext q (dG.mp hq).1,fun q hq z=>?_⟩,b⟩
 ·rw[oH];exact⟨D.nd,by simp,fun x SH y hy=>by refine aa (bO.mp hy) ?_;rintro rfl;exact na SH⟩
 ·by_cases hl:l<H.length
  ·rw[oF hl]at e;refine jZ (D.ob l x e) fun b jJ e1 e2 e3=>?_;exact⟨b,jJ,iu (fJ ..) e1,e2,e3.mono (fJ ..)⟩
  ·haveI SG:l=H.length:=by
    haveI:=(fU.mp e).1;simp at this;lia
   subst SG;simp at e;subst e;exact⟨a,ob,by refine ez D.len ?_;simp,D.ext _ p,hR.mono (fJ ..)⟩
 ·haveI hq':=dG.mp hq;rcases dc.mp z with z|z
  ·exact D.sep q hq'.1 z
  ·exact cP hq'.2 (bO.mp z)
theorem bf.set(n:bf C ρ H s)(hl:ρ[l]? =some a)(hs:Heap.SameBut a s.heap s'.heap)(e:s'.heap.get? a=some ob)(hR:OR C.w ρ o ob)(hg:s'.gens=s.gens):
  bf C ρ (H.set l o) s':=by
 obtain⟨N,S,D,b⟩:=n;exact(D.lt hl).elim fun XN h₀=>(D.ob l XN h₀).elim fun b' h=>h.elim fun jJ h=>⟨_,S.setAt (kP (hl.symm.trans h.1)▸h.2.1) hs e,D.set hl hR,hg▸b⟩
theorem bf.upd(n:bf C ρ H s)(hl:ρ[l]? =some a)(h0:s.heap.get? a=some ob)(hR:OR C.w ρ o (f ob))(hh:s'.heap=s.heap.update a f)(hg:s'.gens=s.gens):
  bf C ρ (H.set l o) s':=
 n.set hl (hh▸Heap.SameBut.update ..) (by refine aa hh ?_;first|exact Heap.get?_update_self f h0 hR.xo|exact Heap.get?_update_self _ h0 hR.xo) hR hg
theorem bf.addr(n:bf C ρ H s){l:Nat}(hl:H[l]? =some o):∃a,ρ[l]? =some a:=by
 cases n with|mk N S D _=>exact(D.ob l o hl).elim fun b h=>h.elim fun _ h=>⟨b,h.1⟩
@[elab_as_elim] theorem VR.eF {P:Value→Prop} {l:Nat} {v:Value} (h:VR ρ (.loc l) v) (k:∀a,ρ[l]? =some a→P (.ref a)):P v:=bB h fun a h=>h.2▸k a h.1
@[elab_as_elim] theorem VR.gX {P:Value→Prop} {i:Int} {v:Value} (h:VR ρ (.int i) v) (k:∀t,P (.int i t)):P v:=bB h fun t h=>h▸k t
@[elab_as_elim] theorem VR.J1 {P:Value→Prop} {i:Str} {v:Value} (h:VR ρ (.str i) v) (k:∀t,P (.str i t)):P v:=bB h fun t h=>h▸k t
@[elab_as_elim] theorem VR.qR {P:Value→Prop} {v u:Value} (h:v=u) (k:P u):P v:=h▸k
theorem bf.list(n:bf C ρ H s){l:Nat}(hl:H[l]? =some (.list xs))(ha:ρ[l]? =some a)(k:∀vs n,s.heap.get? a=some ⟨.type "list",none,.seq vs n, #[]⟩→xs.length<1000000→bh (VR ρ) xs vs.toList→G):G:=
 bB (n.at hl ha) fun _ h=>h.2.2.elim fun vs h2=>h2.elim fun m h3=>k vs m (h3.1▸h.1) h.2.1 h3.2
theorem bf.tup(n:bf C ρ H s){l:Nat}(hl:H[l]? =some (.tuple xs))(ha:ρ[l]? =some a)(k:∀vs n,s.heap.get? a=some ⟨.type "tuple",none,.seq vs n, #[]⟩→xs.length<1000000→bh (VR ρ) xs vs.toList→G):G:=
 bB (n.at hl ha) fun _ h=>h.2.2.elim fun vs h2=>h2.elim fun m h3=>k vs m (h3.1▸h.1) h.2.1 h3.2
end
abbrev cK:=List (Str×NameKind)
abbrev Slots:=List (Str×Nat)
noncomputable abbrev LS:List Str:=Hd.LS0
structure qS(w:bz)(g:Heap):Prop where
 X:(KK w).In g
 T:∃mg mb,AW Hd.vw LS mg mb g
theorem qS.keeps(b:qS w g)(k:∀a o,g.get? a=some o→h.get? a=some o):qS w h:=
 ⟨b.X.keeps k,let⟨mg,mb,T⟩:=b.T;⟨mg,mb,T.keeps k⟩⟩
structure Kb(C:Cx)(A:aG):Prop where
 B:qS C.w C.g
 hu:A.units+4<cLine
theorem bf.jl(n:bf C ρ H s)(b:qS C.w C.g):qS C.w s.heap:=b.keeps fun _ _ e=>n.base e
structure fy(env:Env)(kd:cK):Prop where
 kd:env.scope.names=kd
 fn:env.scope.kind=.function
 gl:env.globals=mainGlobals
 bu:env.builtins=builtinsNs
 co:env.scope.isCoroutine=false
inductive Rd(C:Cx)(env:Env)(x:Str)(v:Value):Prop
 |fast (hk:env.kindOf x=some .local) (hL:env.locals=C.L) (hm:C.m.loc x=some v)
 |own (o:Obj) (es:Array gf) (ep:Nat) (hk:env.kindOf x=some .local) (hX:(env.locals,o)∈C.X) (hd:o.data=.dict es ep) (hs:kB es) (hf:nsFind es x=some v)
 |cell (c:ah) (o:Obj) (hk:env.kindOf x=some .cell∨env.kindOf x=some .free) (hc:env.cells.lookup x=some c) (hX:(c,o)∈C.X) (hd:o.data=.cell (some v))
def LR(C:Cx)(env:Env)(ν:Slots)(ρ:List ah)(lm:LM):Prop:=
 ∀x i v,ν.lookup x=some i→lm[i]? =some (some v)→∃v',Rd C env x v'∧VR ρ v v'
theorem LR.mono(l:LR C env ν ρ lm)(h:ρ<+:aV):LR C env ν aV lm:=
 fun x i v a b=>let⟨v',p,q⟩:=l x i v a b;⟨v',p,q.mono h⟩
noncomputable def lq(x:Str):Bool:= !(x==("__debug__" :Str))&& !(x==("__classdict__" :Str))
section
variable{C:Cx}{A:aG}{ρ:List ah}{env:Env}{kd:cK}{ν:Slots}{lm:LM}
theorem iV(h:lq x=true):(x==("__debug__" :Str))=false:=(zj _).mp (qi.mp h).1
theorem BX(h:lq x=true):(x==("__classdict__" :Str))=false:=(zj _).mp (qi.mp h).2
theorem Bp{E:Value→aB→Prop}{Q:Value→aB→Prop}(ok:fy env kd)(hx:lq x=true)(n:bf C ρ H s)(r:Rd C env x v)(h:Q v s):
  wpAny M A (loadName env x) Q E s:=by
 cases r with
 |fast hk hL hm=>exact Fv ok.fn hk (hL▸n.ns) hm h
 |own o es ep hk hX hd hs hf=>exact Fv ok.fn hk (m:=nsFind es) ⟨o,es,ep,n.extra hX,hd,hs,fun _=>rfl⟩ hf h
 |cell c o hk hc hX hd=>
  rcases hk with hk|hk
  ·exact wpAny_loadName_cell ok.fn hk hc ⟨o,n.extra hX,hd⟩ h
  ·exact wpAny_loadName_free ok.fn hk hc ⟨o,n.extra hX,hd⟩ h (BX hx)
theorem Yx(ok:fy env kd)(hx:lq x=true)(om:ν.lookup x=some i)(l:LR C env ν ρ lm)(q:lm[i]? =some (some v)):Sm C A ρ VR H v H (PySem.eval (.Name x p) env):=
 (l x i v om q).elim fun v' h s n _ _ hR=>Az (Bp ok hx n h.1 (hR ρ s v' (.refl ρ s) n h.2)) (iV hx)
noncomputable def kE:Gl→Str
 |.len=>av "len" |.list=>av "list" |.tuple=>av "tuple" |.sorted=>av "sorted" |.isinstance=>av "isinstance"
 |.callable=>av "callable" |.repr=>av "repr" |.range=>av "range"
 |.cls .problem=>av "Problem" |.cls .solver=>av "Solver" |.cls .backtracking=>av "BacktrackingSolver"
 |.cls .recursive=>av "RecursiveBacktrackingSolver" |.cls .domain=>av "Domain" |.cls .constraint=>av "Constraint" |.cls .dN=>av "AllDifferentConstraint"
 |.fn .jk=>av "_law_added" |.fn .ry=>av "_law_ways" |.fn .gj=>av "_law_refused"
 |.fn _=>av "?" |.unassigned=>av "Unassigned"
noncomputable def XO:Gl→Bool
 |.fn .jk=>true|.fn .ry=>true|.fn .gj=>true|.fn _=>false
 |_=>true
noncomputable def MY:Gl→Bool
 |.cls _=>true|.fn _=>true|.unassigned=>true
 |_=>false
theorem Yy(w:bz)(g:Gl)(h:MY g=true)(k:XO g=true):nsIn (KK w) mainGlobals (kE g)=some (some (W7 g)):=by
 cases g<;>first|exact nf h|exact Cv h|(cases h;done)|skip
 ·rename_i c;cases c<;>rfl
 ·rename_i f;cases f<;>first|exact nf k|exact Cv k|(cases k;done)|rfl
 ·rfl
theorem Pw(w:bz)(g:Gl)(h:MY g=false):nsIn (KK w) mainGlobals (kE g)=some none∧bootBuiltins (kE g)=some (W7 g):=by
 cases g<;>first|(cases h;done)|skip
 all_goals exact⟨rfl,by decide+kernel⟩
end
theorem cA:bQ≤sizeLine:=by decide+kernel
section
variable{C:Cx}{A:aG}{ρ:List ah}{env:Env}{kd:cK}{ν:Slots}{lm:LM}
theorem bh.length(x:bh R xs ys):xs.length=ys.length:=by
 induction x with
 |nil=>rfl
 |cons _ _ ih=>simp[ih]
theorem bh.size{ys:Array β}(x:bh R xs ys.toList):xs.length=ys.size:=x.length
theorem bh.append(x:bh R xs ys)(y:bh R Ab ys'):bh R (xs++Ab) (ys++ys'):=by
 induction x with
 |nil=>exact y
 |cons a _ ih=>exact .cons a ih
theorem bh.get{xs:List α}(x:bh R xs ys):∀{i:Nat}{a:α},xs[i]? =some a→∃b,ys[i]? =some b∧R a b:=by
 induction x with
 |nil=>intro i a e;cases e
 |cons a _ ih=>
  intro i b e;cases i with
  |zero=>cases e;exact⟨_,rfl,a⟩
  |succ i=>exact ih e
theorem bh.take(x:bh R xs ys):∀n,bh R (xs.take n) (ys.take n):=by
 induction x with
 |nil=>intro n;simpa using bh.nil
 |cons a _ ih=>intro n;cases n with
  |zero=>exact .nil
  |succ n=>exact .cons a (ih n)
theorem bh.drop(x:bh R xs ys):∀n,bh R (xs.drop n) (ys.drop n):=by
 induction x with
 |nil=>intro n;simpa using bh.nil
 |cons a as ih=>intro n;cases n with
  |zero=>exact .cons a as
  |succ n=>exact ih n
theorem Yz:Sm C A ρ VR H (.int i) H (PySem.eval (.Constant (.int i) k p) env):=fun s n _ _ q=>wpAny_Constant_int (q ρ _ _ (.toks ρ s _ _) (n.toks _) ⟨s.toks,rfl⟩)
theorem YB:Sm C A ρ VR H (.str x) H (PySem.eval (.Constant (.str x) k p) env):=fun s n _ _ q=>FN (q ρ _ _ (.toks ρ s _ _) (n.toks _) ⟨s.toks,rfl⟩)
theorem TX(b:qS C.w C.g)(ok:fy env kd)(hg:XO gl=true)(hk:env.kindOf (kE gl)=some .globalImplicit)(hn:lq (kE gl)=true):Sm C A ρ VR H (.glob gl) H (PySem.eval (.Name (kE gl) p) env):=fun s n Q _ q=>by
 have h:Q (W7 gl) s:=q ρ s _ (.refl ρ s) n rfl;refine b.T.elim fun mg T=>T.elim fun mb T=>?_;haveI keep:∀a o,C.g.get? a=some o→s.heap.get? a=some o:=fun _ _ e=>n.base e;refine Gq ok.fn hk ?_ (iV hn);cases ho:MY gl with
 |true=>exact Calls.loadGlobal_global (by exact aa ok.gl (T.g.keeps keep)) (mg_of b.X T.g (Yy C.w gl ho hg)) h
 |false=>
  refine Gs (by exact aa ok.gl (T.g.keeps keep)) (Gp b.X T.g (Pw C.w gl ho).1) (by exact aa ok.bu (T.b.keeps keep)) ((T.builtins _ ?_).trans (Pw C.w gl ho).2) h;cases gl<;>first|(cases ho;done)|decide+kernel
noncomputable def cX:aQ→Bool
 |.Starred .. =>true
 |_=>false
theorem lH(h:cX x=false):starEach (x::xs) env=(false,PySem.eval x env)::starEach xs env:=by
 cases x<;>first|rfl|cases h
noncomputable abbrev iy:sU (List AV) (List Value):=fun ρ=>bh (VR ρ)
theorem iy.mono(p:ρ<+:aV)(h:iy ρ xs vs):iy aV xs vs:=fE (fun _ _=>VR.mono p) h
theorem args_nil:Sm C A ρ iy H [] H (spliced (backTo pos (starEach [] env))):=Sm.pure bh.nil
theorem args_cons(hs:cX x=false)(he:Sm C A ρ VR H v H1 (PySem.eval x env))(hr:∀aV,ρ<+:aV→Sm C A aV iy H1 vs H2 (spliced (backTo pos (starEach xs env)))):
  Sm C A ρ iy H (v::vs) H2 (spliced (backTo pos (starEach (x::xs) env))):=by
 exact aa (lH hs) (he.bind fun aD v p hv=>((hr aD p).holding).bind fun cE vs jw nZ=>.pure (.cons (hv.mono jw) nZ))
theorem Kl(h:bh (VR ρ) xs vs)(hs:xs.length<bQ):Sm C A ρ VR H (.loc H.length) (H++[.list xs]) (newList vs):=fun s n _ _ q=>
 wJ (q _ _ _ ⟨fJ ..,rfl,Nat.le_refl _⟩ (n.push (ob:=⟨.type "list",none,.seq vs.toArray 0, #[]⟩) rfl rfl ⟨hs,vs.toArray,0,rfl,h⟩) n.vr) (h.length▸Nat.le_trans (Nat.le_of_lt hs) cA)
theorem Qv(h:bh (VR ρ) xs vs)(hs:xs.length<bQ):Sm C A ρ VR H (.loc H.length) (H++[.tuple xs]) (newTuple vs):=fun s n _ _ q=>
 wpAny_newTuple (q _ _ _ ⟨fJ ..,rfl,Nat.le_refl _⟩ (n.push (ob:=⟨.type "tuple",none,.seq vs.toArray 0, #[]⟩) rfl rfl ⟨hs,vs.toArray,0,rfl,h⟩) n.vr) (h.length▸Nat.le_trans (Nat.le_of_lt hs) cA)
theorem TY(h:Sm C A ρ iy H vs H1 (spliced (backTo pos (starEach xs env))))(hs:vs.length<bQ):Sm C A ρ VR H (.loc H1.length) (H1++[.list vs]) (PySem.eval (.List xs pos) env):=
 Sm.standAt (h.bind fun _ _ _ hv=>Kl hv hs)
theorem YC(h:Sm C A ρ iy H vs H1 (spliced (backTo pos (starEach xs env))))(hs:vs.length<bQ):Sm C A ρ VR H (.loc H1.length) (H1++[.tuple vs]) (PySem.eval (.Tuple xs k pos) env):=
 Sm.standAt (h.bind fun _ _ _ hv=>Qv hv hs)
theorem Sm.val(h:∀s (Q:VQ β) E,(∀v t,R ρ a v→Q v {s with toks:=t})→wpAny (model PG C.w) A t Q E s):Sm C A ρ R H a H t:=
 fun s n Q E q=>h s Q E fun v t hv=>q ρ _ v (.toks ρ s _ t) (n.toks t) hv
theorem CK.led:∀{fs:List (ah×(Str→Option Value))},CK g L h N fs→∃NF:Led,dR g L h NF∧∀(h':Heap),dR g L h' NF→∀p∈fs,h'.Ns p.1 p.2:=by
 intro rv
 induction rv with
 |nil=>
  intro _;exact⟨[],fun _ h=>(nx h),fun _ _ _ h=>(nx h)⟩
 |cons p fs ih=>
  intro x;refine bE (ih fun q hq=>x q (.tail _ hq)) fun NF h1 h2=>?_;obtain⟨⟨o,es,ep,ho,r⟩,y2,y3,y4⟩:=x p (.head _);refine⟨(p.1,o)::NF,fun q hq=>?_,fun h' w q hq=>?_⟩
  ·rcases bw.mp hq with rfl|hq
   ·exact⟨ho,y2,y4⟩
   ·exact h1 q hq
  ·rcases bw.mp hq with rfl|hq
   ·exact⟨o,es,ep,(w _ (.head _)).1,r⟩
   ·exact h2 h' (fun z hz=>w z (.tail _ hz)) q hq
theorem bf.close{s s':aB}(b:iA s.gens)(S:St C.g C.L C.m s.heap N)(D:HX C.w ρ H C.X N)(F:Fr C.g C.L s'.heap C.m.loc)(W:dR C.g C.L s'.heap ((s.heap.objs.size,ob)::(N++NF)))
  (hF:∀(h':Heap),dR C.g C.L h' NF→∀p∈C.m.fs,h'.Ns p.1 p.2) (hR:OR C.w ρ o ob) (hg:s'.gens=s.gens):
  bf C (ρ++[s.heap.objs.size]) (H++[o]) s':=by
 refine⟨(s.heap.objs.size,ob)::N,⟨F,fun p hp=>W p ?_,by rw[gC,dO];exact⟨S.iG,S.nd⟩,S.big,rT S.size S.low,fun p hp=>?_⟩,D.push hR S.iG,hg▸b⟩
 ·rcases bw.mp hp with rfl|hp
  ·exact .head _
  ·exact .tail _ (dD _ hp)
 ·refine vU (S.fs p hp) fun z1 z2 z3 z4=>?_;refine⟨hF _ (fun q hq=>W q (.tail _ (cU _ hq))) p hp,z2,?_,z4⟩;rw[gC,bw]
  rintro (q|q)
  ·exact absurd (q▸zo z1) (Nat.lt_irrefl _)
  ·exact z3 q
theorem di{h:Heap}(e:h.get? a=some ⟨.type "list",none,.seq vs n, #[]⟩):h.IsList a vs:=⟨_,e,rfl,n,rfl⟩
noncomputable def MZ:Bop→Operator
 |.add=>.Add|.sub=>.Sub|.mod=>.Mod|.fdiv=>.FloorDiv|.pow=>.Pow
structure Op1{α β:Type}(t:Value→Sem β)(R:sU α β)(u:AV)(H:Hp)(w:α)(H':Hp):Prop where
 go:∀{C:Cx}{A:aG}{ρ:List ah}{v:Value},Kb C A→VR ρ u v→Sm C A ρ R H w H' (t v)
noncomputable instance iC1{α β:Type}{t:Value→Sem β}{R:sU α β}{u:AV}{H:Hp}{w:α}{H':Hp}:CoeFun (Op1 t R u H w H') fun _=> ∀{C:Cx}{A:aG}{ρ:List ah}{v:Value},Kb C A→VR ρ u v→Sm C A ρ R H w H' (t v):=⟨fun h=>h.go⟩
structure V0{α β:Type}(t:Value→Value→Sem β)(R:sU α β)(u v:AV)(H:Hp)(w:α)(H':Hp):Prop where
 go:∀{C:Cx}{A:aG}{ρ:List ah}{x y:Value},Kb C A→VR ρ u x→VR ρ v y→Sm C A ρ R H w H' (t x y)
noncomputable instance iC2{α β:Type}{t:Value→Value→Sem β}{R:sU α β}{u v:AV}{H:Hp}{w:α}{H':Hp}:CoeFun (V0 t R u v H w H') fun _=> ∀{C:Cx}{A:aG}{ρ:List ah}{x y:Value},Kb C A→VR ρ u x→VR ρ v y→Sm C A ρ R H w H' (t x y):=⟨fun h=>h.go⟩
abbrev Bo(op:Bop)(u v:AV)(H:Hp)(w:AV)(H':Hp):Prop:=V0 (binaryOp (MZ op)) VR u v H w H'
section
variable{i j:Int}{H:Hp}
theorem YD:Bo .add (.int i) (.int j) H (.int (i+j)) H:=⟨fun _ x y=>VR.gX x fun _=>VR.gX y fun _=>Sm.val fun _ _ _ h=>add_int (h _ _ ⟨_,rfl⟩)⟩
theorem Px:Bo .sub (.int i) (.int j) H (.int (i -j)) H:=⟨fun _ x y=>VR.gX x fun _=>VR.gX y fun _=>Sm.val fun _ _ _ h=>PyProof.Rows.sub_int (h _ _ ⟨_,rfl⟩)⟩
theorem YF(a:0<j):Bo .mod (.int i) (.int j) H (.int (Int.fmod i j)) H:=⟨fun _ x y=>VR.gX x fun _=>VR.gX y fun _=>Sm.val fun _ _ _ h=>mod_int' (dg (Int.ne_of_lt a)) (h _ _ ⟨_,rfl⟩)⟩
theorem TZ(a:0<j)(b:j<1000000):Bo .fdiv (.int i) (.int j) H (.int (Int.fdiv i j)) H:=⟨fun _ x y=>VR.gX x fun _=>VR.gX y fun _=>Sm.val fun _ _ _ h=>floordiv_int (dg (Int.ne_of_lt a)) (h _ _ ⟨_,rfl⟩) (.inl (PyProof.noPylong_small (by omega)))⟩
theorem Py(a:0≤j)(b:j≤1):Bo .pow (.int 2) (.int j) H (.int (2^j.toNat)) H:=⟨fun _ x y=>VR.gX x fun _=>VR.gX y fun _=>Sm.val fun _ _ _ h=>pow_int_small a (by lia) (by decide) (h _ _ ⟨_,rfl⟩)⟩
theorem YG{xs ys:List AV}(hl:H[l]? =some (.list xs))(hr:H[r]? =some (.list ys))(hs:(xs++ys).length<bQ):Bo .add (.loc l) (.loc r) H (.loc H.length) (H++[.list (xs++ys)]):=⟨fun _ x y=>VR.eF x fun a ha=>VR.eF y fun b hb s n _ _ q=>n.list hl ha fun vs m h1 _ v1=>n.list hr hb fun ws k h2 _ v2=>by
  obtain⟨N,S,D,bg⟩:=n;refine S.fs.led.elim fun NF f=>?_;refine add_lists (vs:=vs.toList) (ws:=ws.toList) (news:=N++NF) S.fr (fun q hq=>(dc.mp hq).elim (S.nw q) (f.1 q)) (di h1) (di h2) (fun h' F' N'=>?_) ?_
  ·exact q _ _ _ ⟨fJ ..,rfl,Nat.le_refl _⟩ (bf.close (s:=s) bg S D F' N' f.2 ⟨hs,_,0,rfl,v1.append v2⟩ rfl) (bf.vr ⟨N,S,D,bg⟩)
  ·(refine ez v1.length (ez v2.length ?_);refine ez bU ?_)
   exact Nat.le_trans (Nat.le_of_lt hs) cA⟩
end
end
open PySem PySem.W PyProof.Rows PySem.SeqAt
theorem rU{h:Heap}(e:h.get? a=some ⟨.type "tuple",none,.seq vs n, #[]⟩):h.IsTuple a vs:=⟨_,e,rfl,n,rfl⟩
theorem bh.abR{ys:Array β}(x:bh R xs ys.toList)(h:j<ys.size):∃a,xs[j]? =some a∧R a ys[j]:=by
 have hl:j<xs.length:=by exact aa x.length h
 refine(x.get (jy hl)).elim fun b hb=>⟨xs[j],jy hl,?_⟩;haveI:ys.toList[j]? =some ys[j]:=by simp[h]
 exact kP (this.symm.trans hb.1)▸hb.2
theorem I7[DecidableEq α](a b:α):(a==b)=decide (a=b):=rfl
structure Rc(k:Nat)(H:Hp)(a b:AV)(r:Bool):Prop where
 go:∀{C:Cx}{ρ:List ah}{s:aB}{A:aG}{v u:Value},bf C ρ H s→VR ρ a v→VR ρ b u→A.units+k<cLine→RcAt A s v u r∧RcNeAt A s v u (!r)
noncomputable instance iC3{k:Nat}{H:Hp}{a b:AV}{r:Bool}:CoeFun (Rc k H a b r) fun _=> ∀{C:Cx}{ρ:List ah}{s:aB}{A:aG}{v u:Value},bf C ρ H s→VR ρ a v→VR ρ b u→A.units+k<cLine→RcAt A s v u r∧RcNeAt A s v u (!r):=⟨fun h=>h.go⟩
structure CD(k:Nat)(H:Hp)(a b:AV)(r:Bool):Prop where
 go:∀{C:Cx}{ρ:List ah}{s:aB}{A:aG}{v u:Value},bf C ρ H s→VR ρ a v→VR ρ b u→A.units+k<cLine→iQ A s v u r
noncomputable instance iC4{k:Nat}{H:Hp}{a b:AV}{r:Bool}:CoeFun (CD k H a b r) fun _=> ∀{C:Cx}{ρ:List ah}{s:aB}{A:aG}{v u:Value},bf C ρ H s→VR ρ a v→VR ρ b u→A.units+k<cLine→iQ A s v u r:=⟨fun h=>h.go⟩
section
variable{k:Nat}{H:Hp}{l m:Nat}{xs ys:List AV}{r:Bool}
theorem gT:Rc k H (.int i) (.int j) (decide (i=j)):=⟨fun _ x y _=>VR.gX x fun _=>VR.gX y fun _=>⟨RcAt.int_int _ _ _ _,RcNeAt.int_int _ _ _ _⟩⟩
theorem GO:Rc k H (.str i) (.str j) (decide (i=j)):=⟨fun _ x y _=>VR.J1 x fun _=>VR.J1 y fun _=>⟨RcAt.str_str _ _ _ _,RcNeAt.str_str _ _ _ _⟩⟩
theorem I8:Rc k H (.bool i) (.bool j) (decide (i=j)):=⟨fun _ x y _=>VR.qR x (VR.qR y ⟨RcAt.bool_bool _ _,RcNeAt.bool_bool _ _⟩)⟩
theorem vv:CD k H (.int i) (.int j) (decide (i=j)):=⟨fun _ x y _=>VR.gX x fun _=>VR.gX y fun _=>EqAt.int_int _ _ _ _⟩
theorem Br:CD k H (.str i) (.str j) (decide (i=j)):=⟨fun _ x y _=>VR.J1 x fun _=>VR.J1 y fun _=>EqAt.str_str _ _ _ _⟩
theorem pq:CD k H (.loc l) (.loc l) true:=⟨fun _ x y _=>VR.eF x fun _ h=>VR.eF y fun _ h'=>kP (h.symm.trans h')▸EqAt.same _⟩
theorem Bu(e:l≠m)(h:Rc k H (.loc l) (.loc m) r):CD k H (.loc l) (.loc m) r:=⟨fun n x y hu=>by
 refine x.elim fun a ha=>y.elim fun b hb=>?_;haveI t:=(h n x y hu).1;obtain⟨N,S,D,_⟩:=n;rw[ha.2,hb.2]at t ⊢;exact EqAt.of_refs (fun q=>e (D.inj ha.1 (q▸hb.1))) t⟩
theorem rV{e:Nat→Bool}(h:∀j a b,xs[j]? =some a→ys[j]? =some b→CD k H a b (e j)){s:aB}{A:aG}{vs ws:Array Value}(n:bf C ρ H s)(x:bh (VR ρ) xs vs.toList)(y:bh (VR ρ) ys ws.toList)(hu:A.units+(k+1)<cLine):
  ∀j (h1:j<vs.size) (h2:j<ws.size),iQ A.in1 s vs[j] ws[j] (e j):=fun j h1 h2=>
 (x.abR h1).elim fun p hp=>(y.abR h2).elim fun q hq=>h j p q hp.1 hq.1 n hp.2 hq.2 (Nat.lt_of_le_of_lt (Nat.le_of_eq (Nat.succ_add_eq_add_succ ..)) hu)
theorem vz(hl:H[l]? =some (.list xs))(hr:H[m]? =some (.list ys))(e:xs.length=ys.length){f:Nat→Bool}(h:∀j a b,xs[j]? =some a→ys[j]? =some b→CD k H a b (f j)):Rc (k+1) H (.loc l) (.loc m) ((kO xs.length).all f):=⟨fun n x y hu=>
 VR.eF x fun a ha=>VR.eF y fun b hb=>n.list hl ha fun vs i h1 _ hv=>n.list hr hb fun ws j h2 _ hw=>
  haveI sz:vs.size=ws.size:=hv.length.symm.trans (e.trans hw.length);haveI V1:=Nat.lt_of_le_of_lt (Nat.le_add_right _ _) hu
  (show vs.size=xs.length from hv.length.symm)▸⟨RcAt.lists (di h1) (di h2) sz V1 (rV h n hv hw hu),RcNeAt.lists (di h1) (di h2) sz V1 (rV h n hv hw hu)⟩⟩
theorem Pz(hl:H[l]? =some (.list xs))(hr:H[m]? =some (.list ys))(e:xs.length≠ys.length):Rc k H (.loc l) (.loc m) false:=⟨fun n x y hu=>
 VR.eF x fun a ha=>VR.eF y fun b hb=>n.list hl ha fun vs i h1 _ hv=>n.list hr hb fun ws j h2 _ hw=>
  haveI sz:(vs.size !=ws.size)=true:=bne_iff_ne.mpr fun q=>e (hv.length.trans (q.trans hw.length.symm));haveI V1:=Nat.lt_of_le_of_lt (Nat.le_add_right _ _) hu
  ⟨RcAt.lists_lengths (di h1) (di h2) sz V1,RcNeAt.lists_lengths (di h1) (di h2) sz V1⟩⟩
theorem YH(hl:H[l]? =some (.tuple xs))(hr:H[m]? =some (.tuple ys))(e:xs.length=ys.length){f:Nat→Bool}(h:∀j a b,xs[j]? =some a→ys[j]? =some b→CD k H a b (f j)):Rc (k+1) H (.loc l) (.loc m) ((kO xs.length).all f):=⟨fun n x y hu=>
 VR.eF x fun a ha=>VR.eF y fun b hb=>n.tup hl ha fun vs i h1 _ hv=>n.tup hr hb fun ws j h2 _ hw=>by
  haveI sz:vs.size=ws.size:=hv.length.symm.trans (e.trans hw.length);haveI V1:=Nat.lt_of_le_of_lt (Nat.le_add_right _ _) hu;haveI t1:=RcAt.tuples (rU h1) (rU h2) V1 (rV h n hv hw hu);haveI t2:=RcNeAt.tuples (rU h1) (rU h2) V1 (rV h n hv hw hu);refine aa (show xs.length=ws.size from hv.length.trans sz) ?_;rw[sz,Nat.min_self,beq_self_eq_true,Bool.and_true]at t1 t2;exact⟨t1,t2⟩⟩
end
noncomputable abbrev BR:sU Bool Value:=fun _ b v=>v=.bool b
noncomputable abbrev B1:sU Bool Bool:=fun _ b v=>v=b
noncomputable def wo:Cop→CmpOp
 |.eq=>.Eq|.ne=>.NotEq|.lt=>.Lt|.gt=>.Gt|.is=>.Is|.Mm=>.IsNot|.EE=>.In|.nin=>.NotIn
abbrev Co(op:Cop)(u v:AV)(H:Hp)(c:Bool):Prop:=V0 (compareOp (wo op)) BR u v H c H
section
variable{H:Hp}{u v:AV}{c:Bool}{i j:Int}
theorem Sm.SJ(h:∀s,bf C ρ H s→∀(Q:VQ Value) E,(∀k,Q (.bool c) {s with toks:=k})→wpAny (model PG C.w) A t Q E s):Sm C A ρ BR H c H t:=fun s n _ _ q=>h s n _ _ fun k=>q ρ _ _ (.toks ρ s _ k) (n.toks k) rfl
theorem hu3{A:aG}(h:A.units+4<cLine):A.units+3<cLine:=Nat.lt_of_succ_lt h
theorem gh(h:Rc 3 H u v c):Co .eq u v H c:=⟨fun k x y=>Sm.SJ fun s n Q E q=>(h n x y (hu3 k.hu)).1 PG _ E Q (q s.toks)⟩
theorem iN(h:Rc 3 H u v (!c)):Co .ne u v H c:=⟨fun k x y=>Sm.SJ fun s n Q E q=>(h n x y (hu3 k.hu)).2 PG _ E Q ((Gf c).symm▸q s.toks)⟩
theorem Wq:Co .lt (.int i) (.int j) H (decide (i<j)):=⟨fun _ x y=>VR.gX x fun _=>VR.gX y fun _=>Sm.SJ fun s _ _ _ q=>lt_int (q s.toks)⟩
theorem aah:Co .gt (.int i) (.int j) H (decide (j<i)):=⟨fun _ x y=>VR.gX x fun _=>VR.gX y fun _=>Sm.SJ fun s _ _ _ q=>gt_int (q s.toks)⟩
theorem is_none:Co .is .none .none H true:=⟨fun _ x y=>VR.qR x (VR.qR y (Sm.SJ fun s _ _ _ q=>wpAny_is_self rfl (q s.toks)))⟩
theorem YJ:Co .is (.loc l) .none H false:=⟨fun _ x y=>VR.eF x fun _ _=>VR.qR y (Sm.SJ fun s _ _ _ q=>wpAny_is_other rfl (fun q=>nomatch q) (q s.toks))⟩
theorem Qw:Co .Mm .none .none H false:=⟨fun _ x y=>VR.qR x (VR.qR y (Sm.SJ fun s _ _ _ q=>wpAny_isNot_self rfl (q s.toks)))⟩
theorem T3:Co .Mm (.loc l) .none H true:=⟨fun _ x y=>VR.eF x fun _ _=>VR.qR y (Sm.SJ fun s _ _ _ q=>NZ rfl (fun q=>nomatch q) (q s.toks))⟩
theorem YK:Co .Mm (.glob .unassigned) (.glob .unassigned) H false:=⟨fun _ x y=>VR.qR x (VR.qR y (Sm.SJ fun s _ _ _ q=>wpAny_isNot_ref_self (q s.toks)))⟩
theorem T4:Co .Mm (.int i) (.glob .unassigned) H true:=⟨fun _ x y=>VR.gX x fun _=>VR.qR y (Sm.SJ fun s _ _ _ q=>NZ rfl (fun q=>nomatch q) (q s.toks))⟩
end
noncomputable def GP(w:bz):AV→Int
 |.int i=>(intKind PG w).hash i
 |.str s=>(strKind PG w).hash s
 |_=>0
@[elab_as_elim] theorem o6 {P:AV→Prop} {k:AV} {v:Value} (h:E2 k v=true) (hi:∀i,E2 (.int i) v=true→P (.int i)) (hs:∀x,E2 (.str x) v=true→P (.str x)):P k:=by
 cases k with
 |int i=>exact hi i h
 |str x=>exact hs x h
 |_=>exact nf h
noncomputable def bH(w:bz):KeyKind PG w AV where
 is:=E2
 hash:=GP w
 inj:=fun v a b ha hb=>o6 ha (fun i ha=>o6 hb (fun j hb=>by rw[Value.isInt_inj v _ _ ha hb]) fun y hb=>by
  obtain⟨t,rfl⟩:=Value.isInt_shape ha;exact nf hb) fun x ha=>o6 hb (fun j hb=>by
  obtain⟨t,rfl⟩:=Value.isInt_shape hb;exact nf ha) fun y hb=>by rw[Value.isStrOf_inj v _ _ ha hb]
 byValue:=fun k v h=>o6 h (fun i h=>by obtain⟨t,rfl⟩:=Value.isInt_shape h;rfl) fun x h=>by obtain⟨t,rfl⟩:=Value.isStrOf_shape h;rfl
 pyHash:=fun{A E s k v Q} hv h=>by
  revert h;exact o6 hv (fun i hv h=>(intKind PG w).pyHash hv h) fun x hv h=>(strKind PG w).pyHash hv h
 eqBool:=fun{A E s a b u v Q} hu hv h=>by
  revert h;exact o6 hu (fun i hu=>o6 hv (fun j hv h=>(intKind PG w).eqBool hu hv (by simpa using h)) fun y hv h=>by
   obtain⟨t,rfl⟩:=Value.isInt_shape hu;obtain⟨t',rfl⟩:=Value.isStrOf_shape hv;exact EqAt.int_str _ _ _ _ PG w E Q (by simpa using h)) fun x hu=>o6 hv (fun j hv h=>by
   obtain⟨t,rfl⟩:=Value.isStrOf_shape hu;obtain⟨t',rfl⟩:=Value.isInt_shape hv;exact EqAt.str_int _ _ _ _ PG w E Q (by simpa using h)) fun y hv h=>(strKind PG w).eqBool hu hv (by simpa using h)
 «strs» :=fun k x t v h=>by
  cases k<;>first|exact nf h|skip
  exact KeyKind.«strs» (strKind PG w) _ x t v h
theorem jH(h:keyOk k=true)(x:VR ρ k v):(bH w).is k v=true:=by
 cases k<;>first|exact nf h|skip
 ·obtain⟨t,rfl⟩:=x;show Value.isInt _ (.int _ t)=true;simp[Value.isInt]
 ·obtain⟨t,rfl⟩:=x;show Value.isStrOf _ (.str _ t)=true;simp[Value.isStrOf]
section
variable{w:bz}{ρ:List ah}
theorem pF(f:bh (ER w ρ) kvs es)(k:AV):
  (dJ k kvs=none∧findBy (bH w).is es.toArray k=none)∨∃v v',dJ k kvs=some v∧findBy (bH w).is es.toArray k=some v'∧VR ρ v v':=by
 unfold findBy;rw[List.find?_toArray]
 induction f with
 |nil=>exact .inl ⟨rfl,rfl⟩
 | @cons kv e kvs es h _ ih=>
  obtain⟨k',v⟩:=kv;haveI e1:(bH w).is k e.key=decide (k=k'):=O4 (knd:=bH w) h.1 k
  by_cases q:k'=k
  ·subst q
   (refine aa (Pa rfl) (aa AP ?_);refine aa e1 ?_)
   exact .inr ⟨v,e.val,rfl,by simp,h.2.2⟩
  ·(refine aa (Pg q) (aa AP ?_);refine aa e1 ?_)
   simpa [dg q] using ih
theorem jI(f:bh (ER w ρ) kvs es):KeysOf (bH w) es.toArray:=by
 intro e he;rw[List.mem_toArray]at he
 induction f with
 |nil=>cases he
 | @cons kv x kvs es h _ ih=>
  rcases bw.mp he with rfl|he
  ·refine⟨kv.1,h.1,?_⟩;refine aa h.2.1 ?_;show _=GP w kv.1;unfold GP;cases kv.1<;>rfl
  ·exact ih he
end
section
variable{C:Cx}{A:aG}{ρ:List ah}{H:Hp}{s:aB}
theorem bf.map(n:bf C ρ H s){l:Nat}(hl:H[l]? =some (.dict kvs ep))(ha:ρ[l]? =some a){G:Prop}
  (k:∀es:List gf,s.heap.get? a=some (dictOf es ep)→bh (ER C.w ρ) kvs es→(kvs.map (·.1)).Nodup→s.heap.MapOf (bH C.w) a (fun k=>findBy (bH C.w).is es.toArray k)→kvs.length<bQ→G):G:=
 (n.at hl ha).elim fun ob h=>h.2.2.elim fun es h2=>
  haveI h1:s.heap.get? a=some (dictOf es ep):=h2.1▸h.1
  k es h1 h2.2.2 h2.2.1 ⟨_,es.toArray,ep,h1,⟨rfl,rfl,rfl⟩,rfl,jI h2.2.2,fun _=>rfl⟩ h.2.1
theorem bf.o7(n:bf C ρ H s){l:Nat}(ha:ρ[l]? =some a):(a==sysModules)=false:=by
 cases n with|mk N S D _=>exact(D.lt ha).elim fun o ho=>(D.ob l o ho).elim fun b h=>h.elim fun ob h=>beq_eq_false_iff_ne.mpr (S.low _ (kP (ha.symm.trans h.1)▸h.2.1)).1
end
open PySem PySem.W PyProof.Rows PySem.SeqAt PySem.Calls
def vj(h:Heap)(a:ah)(c:Value):Prop:=∃o,h.get? a=some o∧o.cls=c
section
variable{w:bz}{h:Heap}{a:ah}{c:Value}{M:k7}
theorem vj.type(x:vj h a c):eX M h (typeOf (.ref a)) c:=by
 refine bE (x) fun o e fF=>?_;subst fF;exact(ng e).andThen .now
theorem vj.special(x:vj h a c)(X:(KK w).In h)(e:findIn (KK w) c name=some r):eX M h (specialOf (.ref a) name) r:=
 x.type.andThen (oY X e)
theorem vj.inst(x:vj h a c)(X:(KK w).In h)(e:subIn (KK w) c base=some b):eX M h (isInstance (.ref a) base) b:=
 x.type.andThen (looks_subIn X e)
end
section
variable{w:bz}{A:aG}{s:aB}{a:ah}{c:Value}
theorem Qx{E:Value→aB→Prop}(X:(KK w).In s.heap)(x:vj s.heap a c)
  (hk:builtinKind i=some .slot∨builtinKind i=some .method) (hs:splitId i=some (owner,n)) (hi:subIn (KK w) c (.type owner)=some true) (ha:argsOk i ⟨.ref a::rest,kw⟩) (q:Q () s):
  wpAny (model PG w) A (checkBuiltinCall i ⟨.ref a::rest,kw⟩) Q E s:=by
 rcases hk with hk|hk
 all_goals
  simp only[checkBuiltinCall,hk,hs];refine af ((x.inst X hi).here ?_);simp only[Ge,jT,if_false];cases XQ:O1 i with
  |none=>exact aE q
  |some sig=>
   simp only[argsOk,XQ]at ha;haveI h2:A0 i sig ⟨.ref a::rest,kw⟩=pure ():=ha;show wpAny _ A (A0 i sig ⟨.ref a::rest,kw⟩) Q E s;exact aa h2 (aE q)
abbrev uV(w:bz)(A:aG)(R:kC→aB→Prop):Fin→aB→Prop:=fun fin s'=>match fin with
 |.done f=>R (.ok f) s'
 |.again c'=>c'.quiet=true∧codeAny (model PG w) A c' R s'
theorem T5{i owner n:String}(X:(KK w).In s.heap)(x:vj s.heap a c)
  (hk:builtinKind i=some .slot∨builtinKind i=some .method) (hs:splitId i=some (owner,n)) (hi:subIn (KK w) c (.type owner)=some true) (ha:argsOk i ⟨.ref a::rest,[]⟩)
  (hp:plainId i=true) (he:entryFor table i=some b) (h:wpAny (model PG w) A.in1 (b ⟨.ref a::rest,[]⟩) (uV w A R) (fun e s'=>R (.error e) s') s):
  codeAny (model PG w) A (.call (.builtin i) ⟨.ref a::rest,[]⟩) R s:=
 NT (kj hp _) he (Qx X x hk hs hi ha (by rw[nP hp];exact h))
abbrev rB(Q:Value→aB→Prop)(E:Value→aB→Prop):kC→aB→Prop:=fun r s'=>match r with
 |.ok (.ret v)=>Q v s'
 |.ok _=>False
 |.error e=>E e s'
theorem T6{E:Value→aB→Prop}(X:(KK w).In s.heap)(x:vj s.heap a c)
  (hk:builtinKind i=some .slot∨builtinKind i=some .method) (hs:splitId i=some (owner,n)) (hi:subIn (KK w) c (.type owner)=some true) (ha:argsOk i ⟨.ref a::rest,[]⟩)
  (hp:plainId i=true) (he:entryFor table i=some b) (h:wpAny (model PG w) A.in1 (b ⟨.ref a::rest,[]⟩) (uV w A (rB Q E)) E s):
  wpAny (model PG w) A (call (.builtin i) (.ref a::rest)) Q E s:=kq (T5 X x hk hs hi ha hp he h)
end
structure bY(h:Heap)(a:ah)(c:Value)(d:Option ah)(vs:Array Value)(n:Nat):Prop where
 at_:h.get? a=some ⟨c,d,.seq vs n, #[]⟩
 cls:c=.type "list" ∨c=.ref 303
theorem bY.ob(x:bY h a c d vs n):vj h a c:=⟨_,x.at_,rfl⟩
theorem jq(w:bz)(h:c=.type "list" ∨c=.ref 303):subIn (KK w) c (.type "list")=some true:=by
 rcases h with rfl|rfl<;>rfl
def Sq(H:Hp)(l:Nat)(xs:List AV)(mk:List AV→AO):Prop:=H[l]? =some (mk xs)∧(mk=AO.list∨∃d,mk=fun ys=>AO.dom ys d)
theorem yW(h:H[l]? =some (.list xs)):Sq H l xs AO.list:=⟨h,.inl rfl⟩
theorem W8(h:H[l]? =some (.dom xs d)):Sq H l xs fun ys=>AO.dom ys d:=⟨h,.inr ⟨d,rfl⟩⟩
theorem Km(hm:mk=AO.list∨∃d,mk=fun ys=>AO.dom ys d):small (mk xs)↔xs.length<bQ:=by
 rcases hm with rfl|⟨d,rfl⟩<;>exact A4
section
variable{C:Cx}{ρ:List ah}{H:Hp}{s:aB}{l:Nat}{a:ah}{xs:List AV}{G:Prop}
theorem bf.seq{mk:List AV→AO}(n:bf C ρ H s)(q:Sq H l xs mk)(ha:ρ[l]? =some a)
  (k:∀c d vs m,bY s.heap a c d vs m→bh (VR ρ) xs vs.toList→vs.size<bQ→(∀ys ws k',ys.length<bQ→bh (VR ρ) ys ws→OR C.w ρ (mk ys) ⟨c,d,.seq ws.toArray k', #[]⟩)→G):G:=by
 refine iK (q) fun hl hm=>?_;refine kZ (n.at hl ha) fun ob h sm hR=>?_;have sz:=(Km hm).mp sm;rcases hm with rfl|⟨d,rfl⟩
 ·refine qU (hR) fun vs m fF hv=>?_;subst fF;exact k _ _ vs m ⟨h,.inl rfl⟩ hv (hv.size▸sz) fun ys ws k' s' hy=>⟨s',ws.toArray,k',rfl,hy⟩
 ·refine J0 (hR) fun b vs m hb e_4 hv=>?_;subst e_4;exact k _ _ vs m ⟨h,.inr rfl⟩ hv (hv.size▸sz) fun ys ws k' s' hy=>⟨s',b,ws.toArray,k',hb,rfl,hy⟩
theorem bf.dom(n:bf C ρ H s)(hl:H[l]? =some (.dom xs d))(ha:ρ[l]? =some a)(k:∀vs m dx,ρ[d]? =some dx→bY s.heap a (.ref 303) (some dx) vs m→bh (VR ρ) xs vs.toList→vs.size<bQ→G):G:=by
 obtain⟨ob,h,sm,b,vs,m,hb,rfl,hv⟩:=n.at hl ha;exact k vs m b hb ⟨h,.inr rfl⟩ hv (hv.size▸sm)
theorem bf.arg(n:bf C ρ H s)(hl:H[l]? =some (.arg zs m))(ha:ρ[l]? =some a)(k:∀c d vs m,bY s.heap a c d vs m→bh (VR ρ) (vQ zs) vs.toList→vs.size<bQ→G):G:=
 (n.at hl ha).elim fun ob h=>h.2.vQ.elim fun sm h2=>h2.elim fun vs h3=>h3.elim fun m h4=>k _ _ vs m ⟨h4.1▸h.1,.inl rfl⟩ h4.2 (h4.2.size▸sm)
end
section
variable{w:bz}{A:aG}{s:aB}{a:ah}{c:Value}{d:Option ah}{vs:Array Value}{n:Nat}{E:Value→aB→Prop}
theorem fq(x:bY s.heap a c d vs n)(h:Q vs s):wpAny (model PG w) A (Builtin.List.listItems (.ref a)) Q E s:=AX x.at_ rfl h
theorem cY(x:bY s.heap a c d vs n)(h0:vs.size<bQ)(hz:(f vs).size≤bQ)
  (h:Q () {s with heap:=s.heap.update a (bK f)}):wpAny (model PG w) A (Builtin.List.listUpdate (.ref a) f) Q E s:=
 Gu x.at_ rfl h (Nat.le_trans (Nat.le_of_lt h0) cA) (Nat.le_trans hz (Nat.le_succ_of_le cA))
theorem fu(f:Array Value→Array Value):∃k,bK f ⟨c,d,.seq vs n, #[]⟩=⟨c,d,.seq (f vs) k, #[]⟩:=⟨_,rfl⟩
theorem uH(x:bY s.heap a c d vs n)(hz:vs.size<bQ)(h:Q (.done (.ret .none)) {s with heap:=s.heap.update a (bK (·.push v))}):
  wpAny (model PG w) A (Builtin.«list.append» ⟨[.ref a,v],[]⟩) Q E s:=by
 refine af (aE ?_);exact af (cY x hz (by rw[Array.size_push];exact hz) (aE h))
theorem size_erase_le(vs:Array Value)(i:Nat):(vs.eraseIdxIfInBounds i).size≤vs.size:=by
 unfold Array.eraseIdxIfInBounds
 split
 ·rw[Array.size_eraseIdx];lia
 ·exact Nat.le_refl _
theorem Qy(x:bY s.heap a c d vs n)(hz:vs.size<bQ)(hv:vs.toList.getLast? =some v)
  (h:Q (.done (.ret v)) {s with heap:=s.heap.update a (bK fun xs=>xs.eraseIdxIfInBounds (vs.size -1))}):
  wpAny (model PG w) A (Builtin.«list.pop» ⟨[.ref a],[]⟩) Q E s:=by
 have lU:vs.size≠0:=fun q=>by
  haveI:vs= #[]:=Array.eq_empty_of_size_eq_zero q;subst this;cases hv
 refine af (aE ?_);refine af (aE ?_);dsimp only;refine aa (au (by decide)) (af (fq x ?_));haveI he:vs.isEmpty=false:=by simp[Array.isEmpty,lU]
 simp only[he,jT,if_false];haveI hi:(seqIndex? (-1) vs.size).bind (fun k=>vs[k]?.map (k,·))=some (vs.size -1,v):=by
  haveI:seqIndex? (-1) vs.size=some (vs.size -1):=by
   unfold seqIndex?;haveI:(-1:Int)+(vs.size:Int)=((vs.size -1:Nat):Int):=by rw[Int.ofNat_sub (Nat.pos_of_ne_zero lU),Int.add_comm];rfl
   simp[this];lia
  rw[this,OS];rw[List.getLast?_eq_getElem?]at hv;haveI e:vs[vs.size -1]? =some v:=by simpa using hv
  refine aa e ?_;rfl
 exact aa hi (af (cY x hz (Nat.le_trans (size_erase_le _ _) (Nat.le_of_lt hz)) (aE h)))
theorem D7(x:bY s.heap a c d vs n)(hb:s.heap.get? b=some o)(hc:o.cls=.type "list" ∨o.cls=.type "tuple")(hd:o.data=.seq ws k)(h0:vs.size<bQ)(hz:vs.size+ws.size≤bQ)
  (h:Q (.done (.ret .none)) {s with heap:=s.heap.update a (bK (·++ws))}):
  wpAny (model PG w) A (Builtin.«list.extend» ⟨[.ref a,.ref b],[]⟩) Q E s:=by
 refine af (aE ?_);refine af ((vj.type (h:=s.heap) ⟨o,hb,rfl⟩:eX (model PG w) s.heap (typeOf (.ref b)) o.cls).here ?_);have ht:(Builtin.List.listSameRef (.ref a) (.ref b)||o.cls==.type "list" ||o.cls==.type "tuple")=true:=by
  rcases hc with e|e<;>refine aa e ?_<;>simp
 simp only[ht,if_true];refine af (AX hb hd ?_);refine af (fq x ?_);haveI hl:(!vs.isEmpty&&Builtin.List.listTooLong (vs.size+ws.size))=false:=by
  simp[Builtin.List.listTooLong];intro _;exact Nat.le_trans hz cA
 simp only[hl,jT,if_false];exact af (cY x h0 (by simpa using hz) (aE h))
end
open PySem PySem.W PyProof.Rows PySem.SeqAt PySem.Calls PySem.MeetsSeq
theorem drop_nil{vs:Array Value}(h:vs.toList.drop i=[]):vs[((i:Nat):Int).toNat]? =none:=by
 haveI:=aR (fun l=>l[0]?) h;simpa using this
theorem rH{vs:Array Value}(h:vs.toList.drop i=v::r):vs[((i:Nat):Int).toNat]? =some v:=by
 haveI:=aR (fun l=>l[0]?) h;simpa using this
theorem drop_one{vs:Array Value}(h:vs.toList.drop i=v::r):vs.toList.drop (i+1)=r:=by
 (refine ez tM (aa h ?_));rfl
theorem I9{vs:Array Value}(h:vs.toList.drop i=v::r):i<vs.size:=Nat.lt_of_not_le fun q=>by
 rw[C1 q]at h;cases h
def CE{α:Type}(P:α→Bool→Prop):List α→Nat→Prop
 |[],_=>False
 |x::_,0=>P x true
 |x::r,j+1=>P x false∧CE P r j
theorem CE.here(h:P x true):CE P (x::r) 0:=h
theorem CE.next(h:P x false)(k:CE P r j):CE P (x::r) (j+1):=⟨h,k⟩
theorem CE.all2{R:α→β→Prop}(h:∀a b c,R a b→P a c→P' b c)(f:CE P xs j):∀{ys:List β},bh R xs ys→CE P' ys j:=by
 induction xs generalizing j with
 |nil=>exact f.elim
 |cons x xs ih=>intro ys x;cases x with|cons a r=>cases j with|zero=>exact h _ _ _ a f|succ j=>exact⟨h _ _ _ a f.1,ih f.2 r⟩
theorem CE.lt(f:CE P xs j):j<xs.length:=by
 induction xs generalizing j with
 |nil=>exact f.elim
 |cons x xs ih=>cases j with|zero=>exact Nat.succ_pos _|succ j=>exact Nat.succ_lt_succ (ih f.2)
section
variable{w:bz}{A:aG}{s:aB}{a:ah}{c:Value}{d:Option ah}{vs:Array Value}{n:Nat}{E:VQ Value}{kv:Value}{R:kC→aB→Prop}
theorem yI(x:bY s.heap a c d vs n){bs:List Bool}(he:bh (fun b y=>iQ A.in1 s y kv b) bs ws):∀i,vs.toList.drop i=ws→R (.ok (.ret (.bool (bs.any id)))) s→codeAny (model PG w) A (.builtin "list.__contains__.loop" ⟨[.ref a,kv,rawInt i],[]⟩) R s:=by
 have go:∀{i:Nat}{R:kC→aB→Prop},wpAny (model PG w) A.in1 (do
   match vs[((i:Nat):Int).toNat]? with
   |none=>ret (.bool false)
   |some y=>if ←eqBool y kv then ret (.bool true)else again (.builtin "list.__contains__.loop" ⟨[.ref a,kv,rawInt (i+1)],[]⟩)) (uV w A R) (fun e s'=>R (.error e) s') s→codeAny (model PG w) A (.builtin "list.__contains__.loop" ⟨[.ref a,kv,rawInt i],[]⟩) R s:=fun h=>
  oA entry_contains_loop (by rw[nP GB];exact af (fq x h))
 induction he with
 |nil=>intro i hd h;exact go (by exact aa (drop_nil hd) (aE h))
 | @cons b _ _ _ p _ ih=>
  intro i hd h;refine go ?_;refine aa (rH hd) (af (p PG w _ _ ?_));cases b with
  |true=>exact aE h
  |false=>exact aE ⟨kj GB _,ih (i+1) (drop_one hd) h⟩
theorem yJ(x:bY s.heap a c d vs n)(he:bh (fun b y=>iQ A.in1 s y kv b) bs vs.toList)(h:R (.ok (.ret (.bool (bs.any id)))) s):
  wpAny (model PG w) A.in1 (Builtin.«list.__contains__» ⟨[.ref a,kv],[]⟩) (uV w A R) E s:=by
 unfold Builtin.«list.__contains__»;exact af (aE (aE ⟨kj GB _,yI x he 0 rfl h⟩))
theorem D8(x:bY s.heap a c d vs n)(h0:vs.size<bQ){ws:List Value}(f:CE (fun y b=>iQ A.in1 s y kv b) ws j):∀i,vs.toList.drop i=ws→R (.ok (.ret .none)) {s with heap:=s.heap.update a (bK (·.eraseIdxIfInBounds (i+j)))}→
  codeAny (model PG w) A (.builtin "list.remove.loop" ⟨[.ref a,kv,rawInt i],[]⟩) R s:=by
 have go:∀{i:Nat}{v:Value}{b:Bool},vs[((i:Nat):Int).toNat]? =some v→iQ A.in1 s v kv b→
   wpAny (model PG w) A.in1 (if b then do Builtin.List.listUpdate (.ref a) (·.eraseIdxIfInBounds (i:Int).toNat);ret .none else again (.builtin "list.remove.loop" ⟨[.ref a,kv,rawInt (i+1)],[]⟩)) (uV w A R) (fun e s'=>R (.error e) s') s→codeAny (model PG w) A (.builtin "list.remove.loop" ⟨[.ref a,kv,rawInt i],[]⟩) R s:=fun hi p h=>
  oA entry_remove_loop (by
   rw[nP GC];unfold Builtin.«list.remove.loop»;refine af (fq x ?_);exact aa hi (af (p PG w _ _ h)))
 induction ws generalizing j with
 |nil=>exact f.elim
 |cons v ws ih=>intro i hd h;cases j with
  |zero=>exact go (rH hd) f (af (cY x h0 (Nat.le_trans (size_erase_le _ _) (Nat.le_of_lt h0)) (aE h)))
  |succ j=>exact go (rH hd) f.1 (aE ⟨kj GC _,ih f.2 (i+1) (drop_one hd) ((Nat.succ_add_eq_add_succ i j).symm▸h)⟩)
theorem D9(x:bY s.heap a c d vs n)(h0:vs.size<bQ)(f:CE (fun y b=>iQ A.in1 s y kv b) vs.toList j)(h:R (.ok (.ret .none)) {s with heap:=s.heap.update a (bK (·.eraseIdxIfInBounds j))}):
  wpAny (model PG w) A.in1 (Builtin.«list.remove» ⟨[.ref a,kv],[]⟩) (uV w A R) E s:=by
 unfold Builtin.«list.remove»;exact af (aE (aE ⟨kj GC _,D8 x h0 f 0 rfl ((Nat.zero_add j).symm▸h)⟩))
theorem HF(x:bY s.heap a c d vs n)(h0:vs.size<bQ){ws:List Value}(f:CE (fun y b=>iQ A.in1 s y kv b) ws j):∀i,vs.toList.drop i=ws→R (.ok (.ret (.int (i+j:Nat) s.toks))) {s with toks:=s.toks+1}→
  codeAny (model PG w) A (.builtin "list.index.loop" ⟨[.ref a,kv,rawInt i,rawInt (2^63 -1)],[]⟩) R s:=by
 have go:∀{i:Nat}{v:Value}{b:Bool},vs[((i:Nat):Int).toNat]? =some v→i<vs.size→iQ A.in1 s v kv b→
   wpAny (model PG w) A.in1 (if b then do ret (←mkInt i)else again (.builtin "list.index.loop" ⟨[.ref a,kv,rawInt (i+1),rawInt (2^63 -1)],[]⟩)) (uV w A R) (fun e s'=>R (.error e) s') s→codeAny (model PG w) A (.builtin "list.index.loop" ⟨[.ref a,kv,rawInt i,rawInt (2^63 -1)],[]⟩) R s:=fun hi lt p h=>
  oA entry_index_loop (by
   rw[nP GF];unfold Builtin.«list.index.loop»;refine af (fq x ?_)
   (refine aa (aF (Int.lt_trans (Int.ofNat_lt.mpr (Nat.lt_trans lt h0)) (by decide+kernel))) (aa hi ?_))
   exact af (p PG w _ _ h))
 induction ws generalizing j with
 |nil=>exact f.elim
 |cons v ws ih=>intro i hd h;cases j with
  |zero=>exact go (rH hd) (I9 hd) f (af (FP (aE h)))
  |succ j=>exact go (rH hd) (I9 hd) f.1 (aE ⟨kj GF _,ih f.2 (i+1) (drop_one hd) ((Nat.succ_add_eq_add_succ i j).symm▸h)⟩)
theorem HG(x:bY s.heap a c d vs n)(h0:vs.size<bQ)(f:CE (fun y b=>iQ A.in1 s y kv b) vs.toList j)(h:R (.ok (.ret (.int j s.toks))) {s with toks:=s.toks+1}):
  wpAny (model PG w) A.in1 (Builtin.«list.index» ⟨[.ref a,kv],[]⟩) (uV w A R) E s:=by
 unfold Builtin.«list.index»;exact af (aE (af (aE (af (aE (af (fq x (aE ⟨kj GF _,HF x h0 f 0 rfl ((Nat.zero_add j).symm▸h)⟩))))))))
end
structure Bi(i owner n:String)(b:Builtin):Prop where
 kind:builtinKind i=some .slot∨builtinKind i=some .method
 split:splitId i=some (owner,n)
 plain:plainId i=true
 entry:entryFor table i=some b
theorem zG:Bi "list.append" "list" "append" Builtin.«list.append» :=⟨.inr (by decide+kernel),by decide+kernel,by decide+kernel,PySem.F.entry_list_append⟩
theorem YL:Bi "list.pop" "list" "pop" Builtin.«list.pop» :=⟨.inr (by decide+kernel),by decide+kernel,by decide+kernel,PySem.F.entry_list_pop⟩
theorem Ko:Bi "list.extend" "list" "extend" Builtin.«list.extend» :=⟨.inr (by decide+kernel),by decide+kernel,by decide+kernel,PySem.F.entry_list_extend⟩
theorem Kp:Bi "list.remove" "list" "remove" Builtin.«list.remove» :=⟨.inr (by decide+kernel),by decide+kernel,by decide+kernel,PySem.F.entry_list_remove⟩
theorem Qz:Bi "list.index" "list" "index" Builtin.«list.index» :=⟨.inr (by decide+kernel),by decide+kernel,by decide+kernel,PySem.F.entry_list_index⟩
theorem Ea:Bi "list.__contains__" "list" "__contains__" Builtin.«list.__contains__» :=⟨.inl (by decide+kernel),by decide+kernel,by decide+kernel,PySem.F.entry_list_contains⟩
theorem iw{b:Builtin}{rest:List Value}{Q:VQ Value}{E:VQ Value}(f:Bi i owner n b)(X:(KK w).In s.heap)(x:vj s.heap a c)
  (hi:subIn (KK w) c (.type owner)=some true) (ha:argsOk i ⟨.ref a::rest,[]⟩) (h:wpAny (model PG w) A.in1 (b ⟨.ref a::rest,[]⟩) (uV w A (rB Q E)) E s):
  wpAny (model PG w) A (call (.builtin i) (.ref a::rest)) Q E s:=T6 X x f.kind f.split hi ha f.plain f.entry h
theorem bf.A5(n:bf C ρ H s){c:Value}{d:Option ah}{vs:Array Value}{k:Nat}{o:AO}{ws:List Value}{f:Array Value→Array Value}
  (ha:ρ[l]? =some a) (so:bY s.heap a c d vs k) (hO:∀k',OR C.w ρ o ⟨c,d,.seq ws.toArray k', #[]⟩) (hf:f vs=ws.toArray) (hh:s'.heap=s.heap.update a (bK f)) (hg:s'.gens=s.gens):bf C ρ (H.set l o) s':=
 (fu (c:=c) (d:=d) (vs:=vs) (n:=k) f).elim fun k' hk=>n.upd (f:=bK f) ha so.at_ (by(refine aa hk (aa hf ?_));exact hO _) hh hg
theorem bh.concat:∀{ys:List β},bh R (xs++[a]) ys→∃zs b,ys=zs++[b]∧bh R xs zs∧R a b:=by
 induction xs with
 |nil=>intro ys x;cases x with|cons p q=>cases q;exact⟨[],_,rfl,.nil,p⟩
 |cons z xs ih=>intro ys x;cases x with|cons p q=>exact(ih q).elim fun zs h=>h.elim fun b h=>⟨_::zs,b,aR (wY _) h.1,.cons p h.2.1,h.2.2⟩
theorem bh.eraseIdx(x:bh R xs ys)(j:Nat):bh R (xs.eraseIdx j) (ys.eraseIdx j):=by
 rw[N6,N6];exact(x.take _).append (x.drop _)
section
variable{C:Cx}{A:aG}{ρ:List ah}{H:Hp}{l r j:Nat}{a b:ah}{x:AV}{v:Value}{xs ys:List AV}{mk:List AV→AO}
theorem Kq(K:Kb C A)(ha:ρ[l]? =some a)(q:Sq H l xs mk)(hx:VR ρ x v)(z:(xs++[x]).length<bQ):Sm C A ρ VR H .none (H.set l (mk (xs++[x]))) (call (.builtin "list.append") [.ref a,v]):=
 fun s n _ _ h=>n.seq q ha fun c d vs k so hv hlen hO=>iw zG (n.jl K.B).X so.ob (jq C.w so.cls) (PySem.F.args_list_append_2 _ _) (uH so hlen
  (h ρ _ _ (.toks ρ s _ _) (n.A5 (ws:=vs.toList++[v]) ha so (fun k'=>hO _ _ k' z (hv.append (.cons hx .nil))) (Array.toList_inj.mp Array.toList_push) rfl rfl) rfl))
theorem YM(K:Kb C A)(ha:ρ[l]? =some a)(q:Sq H l (xs++[x]) mk):Sm C A ρ VR H x (H.set l (mk xs)) (call (.builtin "list.pop") [.ref a]):=
 fun s n _ _ h=>n.seq q ha fun c d vs k so hv hlen hO=>hv.concat.elim fun zs e=>e.elim fun u e=>by
  refine vS (e) fun e h1 h2=>?_;refine iw YL (n.jl K.B).X so.ob (jq C.w so.cls) (PySem.F.args_list_pop_1 _) (Qy so hlen (v:=u) (by(refine aa e (aa FU ?_);with_reducible rfl)) ?_);refine h ρ _ _ (.toks ρ s _ _) (n.A5 (ws:=zs) ha so (fun k'=>hO _ _ k' ?_ h1) ?_ rfl rfl) h2
  ·haveI:=hv.size;rw[bU]at this;exact Nat.lt_of_le_of_lt (Nat.le_add_right _ _) (this▸hlen)
  ·haveI z:vs.size=zs.length+1:=by(refine ez Array.length_toList (aa e ?_);refine aa bU ?_);rfl
   delta Array.eraseIdxIfInBounds;refine aa (dif_pos (by rw[z];exact Nat.lt_succ_self _)) ?_;apply Array.toList_inj.mp;rw[Array.toList_eraseIdx,e,z,Nat.add_sub_cancel,List.eraseIdx_append_of_length_le (Nat.le_refl _),Nat.sub_self];exact eW _
theorem Kr(K:Kb C A)(ha:ρ[l]? =some a)(hb:ρ[r]? =some b)(q:Sq H l xs mk)(hr:H[r]? =some (.list ys))(z:(xs++ys).length<bQ):Sm C A ρ VR H .none (H.set l (mk (xs++ys))) (call (.builtin "list.extend") [.ref a,.ref b]):=
 fun s n _ _ h=>n.seq q ha fun c d vs k so hv hlen hO=>n.list hr hb fun ws m h2 _ hw=>iw Ko (n.jl K.B).X so.ob (jq C.w so.cls) (PySem.F.args_list_extend_2 _ _) (D7 so h2 (.inl rfl) rfl hlen
  (by(refine ez hv.size (ez hw.size ?_);refine ez bU ?_);exact Nat.le_of_lt z)
  (h ρ _ _ (.toks ρ s _ _) (n.A5 (ws:=vs.toList++ws.toList) ha so (fun k'=>hO _ _ k' z (hv.append hw)) (Array.toList_inj.mp Array.toList_append) rfl rfl) rfl))
abbrev CL(H:Hp)(x:AV)(xs:List AV)(j:Nat):Prop:=CE (fun y b=>CD 3 H y x b) xs j
theorem PA(n:bf C ρ H s)(hx:VR ρ x v)(hu:A.units+4<cLine)(f:CL H x xs j)(hv:bh (VR ρ) xs vs):CE (fun y b=>iQ A.in1 s y v b) vs j:=f.all2 (R:=VR ρ) (fun _ _ _ h e=>e n h hx (Nat.lt_of_le_of_lt (Nat.le_of_eq (Nat.succ_add_eq_add_succ ..)) hu)) hv
theorem Ku(K:Kb C A)(ha:ρ[l]? =some a)(q:Sq H l xs mk)(hx:VR ρ x v)(f:CL H x xs j):Sm C A ρ VR H .none (H.set l (mk (xs.eraseIdx j))) (call (.builtin "list.remove") [.ref a,v]):=
 fun s n _ _ h=>n.seq q ha fun c d vs k so hv hlen hO=>iw Kp (n.jl K.B).X so.ob (jq C.w so.cls) (PySem.F.args_list_remove_2 _ _) (D9 so hlen (PA n hx K.hu f hv)
  (h ρ _ _ (.toks ρ s _ _) (n.A5 (ws:=vs.toList.eraseIdx j) ha so (fun k'=>hO _ _ k' (Nat.lt_of_le_of_lt (List.length_eraseIdx_le _ _) (hv.size▸hlen)) (hv.eraseIdx j)) (by
   unfold Array.eraseIdxIfInBounds;exact aa (dif_pos (hv.size▸f.lt)) (Array.toList_inj.mp Array.toList_eraseIdx)) rfl rfl) rfl))
theorem QA(K:Kb C A)(ha:ρ[l]? =some a)(q:Sq H l xs mk)(hx:VR ρ x v)(f:CL H x xs j):Sm C A ρ VR H (.int j) H (call (.builtin "list.index") [.ref a,v]):=
 fun s n _ _ h=>n.seq q ha fun c d vs k so hv hlen hO=>iw Qz (n.jl K.B).X so.ob (jq C.w so.cls) (PySem.F.args_list_index_2 _ _) (HG so hlen (PA n hx K.hu f hv)
  (h ρ _ _ (.toks ρ s _ _) (n.toks _) ⟨s.toks,rfl⟩))
end
section
variable{C:Cx}{A:aG}{ρ:List ah}
theorem BZ{k:Nat}{E:Value→aB→Prop}{Q:Bool→aB→Prop}{kv:Value}{bs:List Bool}(X:(KK w).In s.heap)(so:bY s.heap a c d vs k)
  (he:bh (fun b y=>iQ A.in1 s y kv b) bs vs.toList) (h:Q (bs.any id) s):wpAny (model PG w) A (contains (.ref a) kv) Q E s:=by
 haveI sp:∀M,eX M s.heap (specialOf (.ref a) "__contains__") (some (.builtin "list.__contains__")):=fun M=>so.ob.special X (by rcases so.cls with rfl|rfl<;>rfl)
 delta contains;refine dB ?_;show wpAny _ _ (specialOf (.ref a) "__contains__" >>=_) _ _ _;refine af ((sp _).here ?_);refine aa (au (by decide+kernel)) (af ?_);dsimp only[callSpecialUnlessNone?];refine af ((sp _).here ?_);dsimp only[PySem.F.slot_list_contains.bind];refine dB (af (aE ?_));dsimp only[builtin_beq_none,jT,if_false];refine af (eV (iw (Q:=fun v s'=>v=.bool (bs.any id)∧s'=s) (E:=fun _ _=>False) Ea X so.ob (jq w so.cls) (PySem.F.args_list_contains_2 _ _) (yJ so he ⟨rfl,rfl⟩)) (fun v s' hv=>?_) fun _ _ x=>x.elim);refine iK (hv) fun MC JK=>?_;subst MC;subst JK;exact aE (s7 h)
abbrev Ct(u v:AV)(H:Hp)(c:Bool):Prop:=V0 contains B1 u v H c H
section
variable{H:Hp}{l:Nat}{u:AV}{xs:List AV}{mk:List AV→AO}{kvs:List (AV×AV)}{ep:Nat}{c:Bool}
theorem T7(hl:H[l]? =some (.dict kvs ep))(hk:keyOk u=true):Ct (.loc l) u H (dJ u kvs).isSome:=⟨fun{C A ρ _ v} K x y=>
 VR.eF x fun a ha s n Q E hR=>n.map hl ha fun es h1 h2 h3 hm sm=>by
  haveI h:=wpAny_in_of (Q:=fun v s'=>wpAny (model PG C.w) A (jU (v==.bool true)) Q E s') (E:=E) (A:=A) (jH hk y) (n.o7 ha) hm (aE ?_)
  ·intro Γ p hΓ;haveI h':=h Γ p hΓ;haveI e1:compareOp .In v (.ref a)=(do return .bool (←contains (.ref a) v)):=rfl
   rw[e1,Sem.wp_bind']at h';refine Sem.wp_mono _ _ _ (fun b p' s' z=>?_) (fun _ _ _ z=>z) _ _ h';rw[Sem.wp_pure']at z;haveI z':=z Γ p' hΓ;rw[Sem.wp_pure']at z';cases b<;>exact z'
  ·refine hR ρ _ _ (.toks ρ s _ _) (n.toks _) ?_;rcases pF h2 u with⟨q1,q2⟩|⟨MO,XR,q1,q2,_⟩<;>(refine aa q1 (aa q2 ?_))<;>rfl⟩
theorem nR(h:Ct v u H c):Co .EE u v H c:=⟨fun K x y=>(h K y x).map fun _ _ e=>aR Value.bool e⟩
theorem nq(h:Ct v u H (!c)):Co .nin u v H c:=⟨fun K x y=>(h K y x).map fun _ _ e=>aR Value.bool (by rw[e,Gf])⟩
end
end
section
variable{w:bz}{A:aG}{s:aB}{a:ah}{c:Value}{E:Value→aB→Prop}
theorem pM(X:(KK w).In s.heap)(x:vj s.heap a c)(e:findIn (KK w) c name=some (some (.builtin i)))
  (hb:∀self,bindSpecial (.builtin i) self=pure (.builtin i,[self])) (hc:wpAny (model PG w) A (call (.builtin i) (.ref a::args)) (fun v=>Q (some v)) E s):
  wpAny (model PG w) A (callSpecial? (.ref a) name args) Q E s:=by
 simp only[callSpecial?];refine af ((x.special X e).here ?_);simp only[hb];exact dB (af (aE (af (eV hc (fun v s' h'=>aE h') fun _ _ h'=>h'))))
theorem qe(X:(KK w).In s.heap)(x:vj s.heap a c)(e:findIn (KK w) c name=some none)(h:Q none s):
  wpAny (model PG w) A (callSpecial? (.ref a) name args) Q E s:=by
 simp only[callSpecial?];exact af ((x.special X e).here (aE h))
theorem YN:Bi "list.__len__" "list" "__len__" Builtin.«list.__len__» :=⟨.inl (by decide+kernel),by decide+kernel,by decide+kernel,entry_list_len⟩
theorem mK(w:bz)(h:c=.type "list" ∨c=.ref 303)(e1:findIn (KK w) (.type "list") name=some r)(e2:findIn (KK w) (.ref 303) name=some r):findIn (KK w) c name=some r:=by
 rcases h with rfl|rfl
 ·exact e1
 ·exact e2
variable{d:Option ah}{vs:Array Value}{k:Nat}
theorem Dj{Q:Value→aB→Prop}(X:(KK w).In s.heap)(x:vj s.heap a c)(e:findIn (KK w) c "__len__" =some (some (.builtin i)))
  (hb:∀self,bindSpecial (.builtin i) self=pure (.builtin i,[self])) (hn:n<bQ)
  (hc:∀(Q':Value→aB→Prop),(∀t tk,Q' (.int n t) {s with toks:=tk})→wpAny (model PG w) A (call (.builtin i) [.ref a]) Q' E s)
  (h:∀t tk,Q (.int n t) {s with toks:=tk}):
  wpAny (model PG w) A (Builtin.«len» ⟨[.ref a],[]⟩) (fun fin s'=> ∃r,fin=.done (.ret r)∧Q r s') E s:=by
 unfold Builtin.«len»;refine af (m:=oneArg "len" _) (aE ?_);refine af (m:=callSpecial? (.ref a) (av "__len__")) (pM X x e hb (hc _ fun t tk=>?_));refine af (dB (aE ?_));refine af (qy ?_);show wpAny _ _ (if((n:Nat):Int)<0 then _ else _) _ _ _
 refine aa (au (Int.not_lt.mpr (Int.natCast_nonneg n))) ?_;show wpAny _ _ (if((n:Nat):Int)≥2^63 then _ else _) _ _ _
 exact aa (au (Int.not_le.mpr (Int.lt_trans (Int.ofNat_lt.mpr hn) (by decide+kernel)))) (af (FP (aE ⟨_,rfl,h _ _⟩)))
theorem B5(X:(KK w).In s.heap)(so:bY s.heap a c d vs k)(h:∀t tk,Q (.int vs.size t) {s with toks:=tk}):
  wpAny (model PG w) A (call (.builtin "list.__len__") [.ref a]) Q E s:=by
 refine iw YN X so.ob (jq w so.cls) (args_list_len _) ?_;show wpAny _ _ (do retInt (←seqSize a)) _ _ s
 unfold seqSize;refine af (af (tF so.at_ ?_));exact aE (af (FP (aE (h _ _))))
theorem nI{Q:Value→aB→Prop}(X:(KK w).In s.heap)(so:bY s.heap a c d vs k)(hz:vs.size<bQ)(h:∀t tk,Q (.int vs.size t) {s with toks:=tk}):
  wpAny (model PG w) A (Builtin.«len» ⟨[.ref a],[]⟩) (fun fin s'=> ∃r,fin=.done (.ret r)∧Q r s') E s:=
 Dj X so.ob (mK w so.cls rfl rfl) slot_list_len.bind hz (fun _ h=>B5 X so h) h
theorem yK(X:(KK w).In s.heap)(e0:s.heap.get? a=some (dictOf es ep))(hs:(a==sysModules)=false)
  (h:∀t tk,Q (.int es.length t) {s with toks:=tk}):wpAny (model PG w) A (call (.builtin "dict.__len__") [.ref a]) Q E s:=by
 refine oz F.slot_dict_len (s:=s) (⟨_,e0,rfl⟩:s.TypeIs (.ref a) "dict") F.entry_dict_len ?_ (F.args_dict_len_1 _);show wpAny _ _ (dictSize a>>=_) _ _ s;delta dictSize;refine af (af (Ar e0 rfl (aE ?_)));show wpAny _ _ (Builtin.Dict.pendingCount a>>=_) _ _ s;refine af (wpAny_pendingCount_other hs ?_);refine wpAny_ret_mkInt ?_;haveI:((es.toArray.size:Int)+((0:Nat):Int))=(es.length:Int):=by simp
 exact aa this (h _ _)
theorem yL{Q:Value→aB→Prop}(X:(KK w).In s.heap)(e0:s.heap.get? a=some (dictOf es ep))(hs:(a==sysModules)=false)(hz:es.length<bQ)
  (h:∀t tk,Q (.int es.length t) {s with toks:=tk}):
  wpAny (model PG w) A (Builtin.«len» ⟨[.ref a],[]⟩) (fun fin s'=> ∃r,fin=.done (.ret r)∧Q r s') E s:=
 Dj X ⟨_,e0,rfl⟩ (c:=.type "dict") rfl F.slot_dict_len.bind hz (fun _ h=>yK X e0 hs h) h
theorem xS{n:Nat}(X:(KK w).In s.heap)(x:vj s.heap a c)(e0:findIn (KK w) c "__bool__" =some none)(e:findIn (KK w) c "__len__" =some (some (.builtin i)))
  (hl:∀(A:aG)(E Q':VQ Value),(∀t tk,Q' (.int n t) {s with toks:=tk})→wpAny (model PG w) A (Builtin.«len» ⟨[.ref a],[]⟩) (fun fin s'=> ∃r,fin=.done (.ret r)∧Q' r s') E s)
  (h:∀tk,Q (decide (n≠0)) {s with toks:=tk}):wpAny (model PG w) A (PySem.truthy (.ref a)) Q E s:=by
 haveI lU:((n:Int) !=0)=decide (n≠0):=by
  rw[bne,I7,decide_not]
  congr 1
  simp
 haveI key:wpAny (model PG w) A (runValue (.builtin "len" ⟨[.ref a],[]⟩)) (fun r s'=> ∃t tk,r=.int n t∧s'={s with toks:=tk}) E s:=by
  refine wpAny_runValue (oA entry_len ?_);exact aa (nP plain_len _) (eV (hl _ _ (fun r s'=> ∃t tk,r=.int n t∧s'={s with toks:=tk}) fun t tk=>⟨t,tk,rfl,rfl⟩) (fun fin s' h'=>by obtain⟨r,rfl,hq⟩:=h';exact hq) fun _ _ e=>e)
 delta PySem.truthy;refine af (qe X x e0 ?_);refine af ((x.special X e).here ?_);refine aa (au (by simp)) (af (eV key (fun r s' h'=>?_) fun _ _ e=>e));refine qU (h') fun t tk fF e_3=>?_;subst fF;subst e_3;exact aE (lU▸h tk)
end
theorem sj(h:bh R xs vs):decide (vs.length≠0)= !xs.isEmpty:=by cases h<;>rfl
def Sv(H:Hp)(l:Nat)(xs:List AV):Prop:=(∃mk,Sq H l xs mk)∨∃zs m,H[l]? =some (.arg zs m)∧xs=vQ zs
theorem Sq.v(q:Sq H l xs mk):Sv H l xs:=.inl ⟨mk,q⟩
theorem PB(h:H[l]? =some (.arg zs m)):Sv H l (vQ zs):=.inr ⟨zs,m,h,rfl⟩
theorem bf.abS{xs:List AV}(n:bf C ρ H s)(q:Sv H l xs)(ha:ρ[l]? =some a){G:Prop}(k:∀c d vs m,bY s.heap a c d vs m→bh (VR ρ) xs vs.toList→vs.size<bQ→G):G:=by
 rcases q with⟨mk,q⟩|⟨zs,m,hl,rfl⟩
 ·exact n.seq q ha fun c d vs m so hv hz _=>k c d vs m so hv hz
 ·exact n.arg hl ha k
abbrev Tr(u:AV)(H:Hp)(c:Bool):Prop:=Op1 PySem.truthy B1 u H c H
abbrev Ln(u:AV)(H:Hp)(i:Int):Prop:=Op1 (fun v=>call (.builtin "len") [v]) VR u H (.int i) H
section
variable{H:Hp}{l:Nat}{xs:List AV}{kvs:List (AV×AV)}{ep:Nat}
theorem T8:Tr .none H false:=⟨fun _ x=>VR.qR x (Sm.pure rfl)⟩
theorem eT:Tr (.bool b) H b:=⟨fun _ x=>VR.qR x fun s n _ _ q=>s7 (q _ s b (.refl _ s) n rfl)⟩
theorem YQ:Tr (.int i) H (decide (i≠0)):=⟨fun _ x=>VR.gX x fun t s n _ _ q=>truthy_int (q _ s _ (.refl _ s) n (by show _=_;rw[bne,I7,decide_not]))⟩
theorem GQ(q:Sv H l xs):Tr (.loc l) H (!xs.isEmpty):=⟨fun{C A ρ _} K x=>VR.eF x fun a ha s n _ _ h=>n.abS q ha fun c d vs k so hv hz=>
 xS (n:=vs.size) (n.jl K.B).X so.ob (mK C.w so.cls rfl rfl) (mK C.w so.cls rfl rfl) (fun _ _ _ h=>nI (n.jl K.B).X so hz h) fun tk=>h ρ _ _ (.toks ρ s _ tk) (n.toks tk) (sj hv)⟩
theorem Ja(hl:H[l]? =some (.dict kvs ep)):Tr (.loc l) H (!kvs.isEmpty):=⟨fun{C A ρ _} K x=>VR.eF x fun a ha s n _ _ h=>n.map hl ha fun es h1 h2 h3 hm sm=>
 xS (c:=.type "dict") (n:=es.length) (n.jl K.B).X ⟨_,h1,rfl⟩ rfl rfl (fun _ _ _ h=>yL (n.jl K.B).X h1 (n.o7 ha) (h2.length▸sm) h) fun tk=>h ρ _ _ (.toks ρ s _ tk) (n.toks tk) (sj h2)⟩
theorem PC{mk:List AV→AO}(q:Sq H l xs mk):Ln (.loc l) H xs.length:=⟨fun{C A ρ _} K x=>VR.eF x fun a ha s n _ _ h=>n.seq q ha fun c d vs k so hv hz _=>
 zl kind_len plain_len entry_len (args_len1 _) (nI (n.jl K.B).X so hz fun t tk=>h ρ _ _ (.toks ρ s _ tk) (n.toks tk) ⟨t,by(refine aa hv.size ?_;with_reducible rfl)⟩)⟩
end
section
variable{w:bz}{A:aG}{s:aB}{a:ah}{c:Value}{E:Value→aB→Prop}
theorem T9(X:(KK w).In s.heap)(x:vj s.heap a c)(e:findIn (KK w) c "__getitem__" =some (some (.builtin i)))(h:Q false s):
  wpAny (model PG w) A (getitemInPython (.ref a)) Q E s:=by
 unfold getitemInPython;refine af ((x.special X e).here ?_);exact aE h
theorem rX(X:(KK w).In s.heap)(x:vj s.heap a c)(e:findIn (KK w) c "__getitem__" =some (some (.builtin i)))
  (hs:subscripted slice false (.ref a) ix=PySem.operate ops (getItem (.ref a) ix)) (h:wpAny (model PG w) A (getItem (.ref a) ix) Q E s):
  wpAny (model PG w) A (do let r ←subscripted slice (←getitemInPython (.ref a)) (.ref a) ix;letTemporaryGo value (.ref a) r;pure r) Q E s:=by
 refine af (T9 X x e ?_);refine aa hs (af (wpAny_operating (eV h (fun r s' q=>?_) fun _ _ q=>q)));exact af (Fw (aE q))
end
theorem Ua(h:idx i xs=some x):∃k,seqIndex? i xs.length=some k∧xs[k]? =some x∧ -(xs.length:Int)≤i∧i<xs.length:=by
 by_cases h0:0≤i
 ·have h:xs[i.toNat]? =some x:=(aF h0).symm.trans h;have hl:=(Int.toNat_lt h0).mp (fU.mp h).1;exact⟨i.toNat,(aR (fun j:Int=>if(decide (0≤j)&&decide (j<xs.length))=true then some j.toNat else none) (au (Int.not_lt.mpr h0))).trans (aF (qi.mpr ⟨bN h0,bN hl⟩)),h,Int.le_trans (Int.neg_nonpos_of_nonneg (Int.natCast_nonneg _)) h0,hl⟩
 ·by_cases h1: -(xs.length:Int)≤i
  ·have h:xs[(i+xs.length).toNat]? =some x:=(aF h1).symm.trans ((au h0).symm.trans h);have j0:0≤i+xs.length:=Int.sub_neg i _▸Int.sub_nonneg_of_le h1;have hi:i<0:=Int.not_le.mp h0;have hl:=(Int.toNat_lt j0).mp (fU.mp h).1;exact⟨(i+xs.length).toNat,(aR (fun j:Int=>if(decide (0≤j)&&decide (j<xs.length))=true then some j.toNat else none) (aF hi)).trans (aF (qi.mpr ⟨bN j0,bN hl⟩)),h,h1,Int.lt_of_lt_of_le hi (Int.natCast_nonneg _)⟩
  ·exact Cv ((au h1).symm.trans ((au h0).symm.trans h))
theorem bh.GU{xs:List α}{vs:Array β}(h:bh R xs vs.toList){k:Nat}(e:xs[k]? =some x):∃v,vs[k]? =some v∧R x v:=by
 exact(h.get e).elim fun v q=>⟨v,by simpa using q.1,q.2⟩
abbrev I0(slice:aQ):Prop:=∀o i,subscripted slice false o i=PySem.operate [o,i] (getItem o i)
noncomputable abbrev abT(value slice:aQ)(v u:Value):Sem Value:=do let r ←subscripted slice (←getitemInPython v) v u;letTemporaryGo value v r;pure r
structure Sb(u v:AV)(H:Hp)(w:AV):Prop where
 go:∀{value slice:aQ},I0 slice→V0 (abT value slice) VR u v H w H
noncomputable instance iC5{u v:AV}{H:Hp}{w:AV}:CoeFun (Sb u v H w) fun _=> ∀{value slice:aQ},I0 slice→V0 (abT value slice) VR u v H w H:=⟨fun h=>h.go⟩
section
variable{H:Hp}{l:Nat}{xs:List AV}{i:Int}{z k:AV}{kvs:List (AV×AV)}{ep:Nat}
theorem nB(hl:H[l]? =some (.list xs))(h0:0≤i)(q:xs[i.toNat]? =some z):Sb (.loc l) (.int i) H z:=⟨fun{_ _} hs=>⟨fun{C A ρ _ _} K x y=>
 VR.eF x fun a ha=>VR.gX y fun t s n _ _ hR=>n.list hl ha fun vs k ho sm hv=>(hv.GU q).elim fun w h=>
  rX (c:=.type "list") (n.jl K.B).X ⟨_,ho,rfl⟩ rfl (hs _ _) (wpAny_getItem_list (di ho) h0 (by haveI:=(fU.mp q).1;lia) h.1 (hR ρ s _ (.refl ρ s) n h.2))⟩⟩
theorem GV(hl:H[l]? =some (.tuple xs))(q:idx i xs=some z):Sb (.loc l) (.int i) H z:=⟨fun{_ _} hs=>⟨fun{C A ρ _ _} K x y=>
 VR.eF x fun a ha=>VR.gX y fun t s n _ _ hR=>n.tup hl ha fun vs k ho sm hv=>by
  refine JZ (Ua q) fun j h1 h2 h5 h6=>?_;refine(hv.GU h2).elim fun w h=>?_;exact rX (c:=.type "tuple") (n.jl K.B).X ⟨_,ho,rfl⟩ rfl (hs _ _) (P.getItem_tuple ho (by lia) (by lia) (hv.size▸h1) h.1 (hR ρ s _ (.refl ρ s) n h.2))⟩⟩
theorem Ub(hl:H[l]? =some (.dict kvs ep))(hk:keyOk k=true)(q:dJ k kvs=some z):Sb (.loc l) k H z:=⟨fun{_ _} hs=>⟨fun{C A ρ _ _} K x y=>
 VR.eF x fun a ha s n _ _ hR=>n.map hl ha fun es h1 h2 h3 hm sm=>by
  rcases pF h2 k with⟨q1,_⟩|⟨MO,XR,q1,q2,q3⟩
  ·rw[q]at q1;cases q1
  ·cases q.symm.trans q1;exact rX (c:=.type "dict") (n.jl K.B).X ⟨_,h1,rfl⟩ rfl (hs _ _) (wpAny_getItem_of (jH hk y) hm q2 (hR ρ _ _ (.toks ρ s _ _) (n.toks _) q3))⟩⟩
end
section
variable{w:bz}{A:aG}{s:aB}{E:VQ Value}
theorem Kv(X:(KK w).In s.heap)(x:vj s.heap a c)(hc:c=.type "list" ∨c=.ref 303)(h:Q k s):
  wpAny (model PG w) A (sequenceKey (.ref a) k name) Q E s:=by
 delta sequenceKey;refine af (x.type.here ?_);rcases hc with rfl|rfl
 ·dsimp only[show seqItemTypes.contains "list" =false by decide,Bool.not_false,if_true];exact aE h
 ·show wpAny _ _ (do if !(←seqItemTypes.anyM fun n=>isSubtype (.ref 303) (.type n))then return k else _) _ _ s
  refine af ?_;show wpAny _ _ (isSubtype (.ref 303) (.type "collections.deque")>>=_) _ _ s;refine af ((looks_subIn (t:=.ref 303) X (r:=false) rfl).here ?_);exact aE (aE h)
theorem B6{vl vu:Value}{lo hi:Option Int}{E:Value→aB→Prop}{Q:Value→aB→Prop}(X:(KK w).In s.heap)(so:bY s.heap a c d items k)(hz:items.size<bQ)
  (hs:s.heap.IsSliceOf sl vl vu .none) (pl:tK vl lo) (pu:tK vu hi)
  (h:Q (.ref s.heap.objs.size) {s with heap:=s.heap.push {cls:=.type "list",data:=.seq (slicePick items lo hi none)}}):
  wpAny (model PG w) A (getItem (.ref a) (.ref sl)) Q E s:=by
 refine kZ (id hs) fun os SY hcs W9=>?_;haveI hTs:s.TypeIs (.ref sl) "slice" :=⟨os,SY,hcs⟩;delta getItem;refine dB ?_;refine af (Kv X so.ob so.cls ?_);refine af (pM X so.ob (i:= "list.__getitem__") (mK w so.cls rfl rfl) slot_list_getitem.bind ?_);refine iw (i:= "list.__getitem__") (owner:= "list") (n:= "__getitem__") ⟨.inr (by decide+kernel),by decide+kernel,by decide+kernel,entry_list_getitem⟩ X so.ob (jq w so.cls) (args_list_getitem _ _) ?_;show wpAny _ _ (Builtin.List.listSubscript? (.ref sl)>>=_) _ _ s;refine af ?_;delta Builtin.List.listSubscript?;refine af (rm hTs slice_no_index ?_);dsimp only[OQ,if_true];refine aE ?_;show wpAny _ _ (typeOf (.ref sl)>>=_) _ _ s;refine af (wM hTs ?_);refine aa (au (by decide)) ?_;rw[N5];refine af (af (mE SY W9 (x:=.none) rfl (af (tC .none ?_))));refine aa (au (show ¬((rawPart none==rawInt 0)=true)from uz)) (af (mE SY W9 (x:=vl) rfl (af (tC pl ?_))));refine af (mE SY W9 (x:=vu) rfl (af (tC pu (aE ?_))));refine af (m:=Builtin.List.listItems (.ref a)) (fq so ?_);refine af (mD (sliceIndices_raw lo hi none items.size (by simp)) ?_);exact af (nK (aE (aE h)) (Nat.le_trans (slicePick_size_le items lo hi none) (Nat.le_trans (Nat.le_of_lt hz) cA)))
end
theorem A6(h:k<0):k= -(((-k).toNat:Nat):Int)∧1≤(-k).toNat:=
 ⟨by rw[Int.toNat_of_nonneg (Int.le_of_lt (Int.neg_pos_of_neg h)),Int.neg_neg],Int.lt_toNat.mpr (Int.neg_pos_of_neg h)⟩
theorem Ky(items:Array Value)(h:0≤k):slicePick items none (some k) none=(items.toList.take k.toNat).toArray:=
 (aR (fun k=>slicePick items none (some k) none) (Int.toNat_of_nonneg h).symm).trans (slicePick_upto' items k.toNat)
theorem pick_from(items:Array Value)(h:k<0):slicePick items (some k) none none=(items.toList.drop (items.size -(-k).toNat)).toArray:=
 (aR (fun k=>slicePick items (some k) none none) (A6 h).1).trans (slicePick_last items _ (A6 h).2)
section
variable{C:Cx}{A:aG}{ρ:List ah}{H H1 H2:Hp}{env:Env}{l:Nat}{k:Int}{xs ys:List AV}{value kx:aQ}{p pos:Pos}
theorem tV{lo hi:Option Int}{E:VQ Value}(K:Kb C A)(n:bf C ρ H s)(q:Sv H l xs)(ha:ρ[l]? =some a)(pl:tK vl lo)(pu:tK vu hi)(hy:ys.length<bQ)
  (hp:∀vs:Array Value,bh (VR ρ) xs vs.toList→bh (VR ρ) ys (slicePick vs lo hi none).toList) (h:∀aV s' b,Go ρ aV s s'→bf C aV (H++[.list ys]) s'→VR aV (.loc H.length) b→Q b s'):
  wpAny (model PG C.w) A (do
   PySem.standAt pos
   let r ←subscripted (.Slice aex aey none p) (←getitemInPython (.ref a)) (.ref a) (.ref s.heap.objs.size)
   letTemporaryGo value (.ref a) r
   pure r) Q E {s with heap:=s.heap.push {cls:=.type "slice",data:=.fields #[vl,vu,.none]}}:=by
 haveI n':bf C ρ H {s with heap:=s.heap.push {cls:=.type "slice",data:=.fields #[vl,vu,.none]}}:=n.grow (fun _ _ e=>Heap.get?_push_of_some _ e) rfl;exact af (gz (n'.abS q ha fun c d vs k so hv hz=>rX (ops:=[.ref s.heap.objs.size,.ref a]) (i:= "list.__getitem__") (n'.jl K.B).X so.ob (mK C.w so.cls rfl rfl) rfl
  (B6 (n'.jl K.B).X so hz (Heap.IsSliceOf.new ..) pl pu (h (ρ++[_]) _ _ ⟨fJ ..,rfl,Nat.le_refl _⟩ (n'.push rfl rfl ⟨hy,_,_,rfl,hp vs hv⟩) n'.vr))))
theorem Uc(K:Kb C A)(ho:Sm C A ρ VR H (.loc l) H1 (PySem.eval value env))(hk:∀aV,ρ<+:aV→Sm C A aV VR H1 (.int k) H2 (PySem.eval kx env))(h0:0≤k)(q:Sv H2 l xs)(z:(xs.take k.toNat).length<bQ):
  Sm C A ρ VR H (.loc H2.length) (H2++[.list (xs.take k.toNat)]) (PySem.eval (.Subscript value (.Slice none (some kx) none p) pos) env):=by
 rw[Av];refine ho.bind fun aD v i6 hx s n _ _ hR=>?_;refine af (dB (wN ?_));rw[wL,FJ];exact aE (hk aD i6 s n _ _ fun cE bM u g dX hy=>aE (VR.eF (hx.mono g.p) fun a ha=>VR.gX hy fun t=>tV K dX q ha .none (.int k t) z (fun vs hv=>by exact aa (Ky _ h0) (hv.take _)) fun aV s' b g'=>hR aV s' b (g.trans g')))
theorem YR(K:Kb C A)(ho:Sm C A ρ VR H (.loc l) H1 (PySem.eval value env))(q:Sv H1 l xs)(z:xs.length<bQ):
  Sm C A ρ VR H (.loc H1.length) (H1++[.list xs]) (PySem.eval (.Subscript value (.Slice none none none p) pos) env):=by
 rw[Av];refine ho.bind fun aD v i6 hx s n _ _ hR=>?_;refine af (dB (wN ?_));rw[wL];exact aE (aE (aE (VR.eF hx fun a ha=>tV K n q ha .none .none z (fun vs hv=>by rw[slicePick_all];exact hv) hR)))
theorem Ud(K:Kb C A)(ho:Sm C A ρ VR H (.loc l) H1 (PySem.eval value env))(hk:∀aV,ρ<+:aV→Sm C A aV VR H1 (.int k) H2 (PySem.eval kx env))(h0:k<0)(q:Sv H2 l xs)(z:(xs.drop (xs.length -(-k).toNat)).length<bQ):
  Sm C A ρ VR H (.loc H2.length) (H2++[.list (xs.drop (xs.length -(-k).toNat))]) (PySem.eval (.Subscript value (.Slice (some kx) none none p) pos) env):=by
 rw[Av];refine ho.bind fun aD v i6 hx s n _ _ hR=>?_;refine af (dB (wN ?_));rw[wL,FJ];exact hk aD i6 s n _ _ fun cE bM u g dX hy=>aE (aE (VR.eF (hx.mono g.p) fun a ha=>VR.gX hy fun t=>tV K dX q ha (.int k t) .none z (fun vs hv=>by(refine aa (pick_from _ h0) (aa hv.size ?_));exact hv.drop _) fun aV s' b g'=>hR aV s' b (g.trans g')))
theorem YS(K:Kb C A)(hs:I0 slice)(ho:Sm C A ρ VR H u H1 (PySem.eval value env))(hi:∀aV,ρ<+:aV→Sm C A aV VR H1 v H2 (PySem.eval slice env))(o:Sb u v H2 w):
  Sm C A ρ VR H w H2 (PySem.eval (.Subscript value slice pos) env):=by
 rw[Av];exact ho.bind fun aD v i6 hx=>(hi aD i6).holding.bind fun cE u jw hy=>Sm.standAt (o hs K (hx.mono jw) hy)
end
theorem Kz(a b:Attr):(attrS a==attrS b)=decide (a=b):=by
 cases a<;>cases b<;>decide+kernel
theorem xT(h:FR ρ f e)(a:Attr):e.key.isStr (attrS a)=decide (f.1=a):=by
 obtain⟨⟨t,ht⟩,_⟩:=h;rw[ht,←Kz];rfl
theorem tW(h:bh (FR ρ) fs es):es.any (·.refKey)=false:=by
 induction h with
 |nil=>rfl
 |cons a _ ih=>
  obtain⟨⟨t,ht⟩,_⟩:=a
  (refine aa Oz (aa ih ?_))
  simp only[DictEntry.refKey,ht];rfl
theorem KA(h:bh (FR ρ) fs es)(a:Attr):
  (fget a fs=none∧getL (attrS a) es=some none)∨∃v v',fget a fs=some v∧getL (attrS a) es=some (some v')∧VR ρ v v':=by
 haveI hr:=tW h;unfold getL;refine aa hr ?_;clear hr
 induction h with
 |nil=>exact .inl ⟨rfl,rfl⟩
 | @cons f e fs es h1 _ ih=>
  obtain⟨b,v⟩:=f;haveI e1:=xT h1 a
  by_cases q:b=a
  ·subst q
   (refine aa (Yv rfl) (aa AP ?_);refine aa e1 ?_)
   exact .inr ⟨v,e.val,rfl,by simp,h1.2⟩
  ·(refine aa (Yw q) (aa AP ?_);refine aa e1 ?_)
   simpa [q] using ih
theorem HJ(h:bh (FR ρ) fs es)(hn:∀a,(attrS a==name)=false):lookIn name (dictOf es 0)=some none:=by
 rw[Gn];delta getL;refine aa (tW h) ?_;haveI:es.find? (·.key.isStr name)=none:=by
  rw[List.find?_eq_none];intro e he
  induction h with
  |nil=>cases he
  | @cons f e' fs es h1 _ ih=>
   rcases bw.mp he with rfl|he
   ·obtain⟨⟨t,ht⟩,_⟩:=h1;refine aa ht ?_;show ¬((attrS f.1==name)=true);rw[hn];decide
   ·exact ih he
 refine aa this ?_;rfl
section
variable{C:Cx}{A:aG}{ρ:List ah}{H:Hp}{s:aB}
theorem zH(h:VR ρ x v):handedIn v=true:=by
 cases x<;>first|(obtain rfl:=h;rfl)|(obtain⟨t,rfl⟩:=h;rfl)|(obtain⟨t,_,rfl⟩:=h;rfl)|(obtain⟨t,u,rfl,_⟩:=h;rfl)|skip
 obtain rfl:=h
 rename_i g
 cases g<;>first|rfl|decide+kernel
structure Tw(w:bz)(h:Heap)(a dx:ah)(Cc:ah)(fs:List (Attr×AV))(es:List gf)(n:Nat)(ρ:List ah)(ox:Obj):Prop where
 inst:InstAt h a ox Cc (some (dictOf es n))
 dict:ox.dict=some dx
 rel:bh (FR ρ) fs es
 nd:(fs.map (·.1)).Nodup
 at_:h.get? dx=some (dictOf es n)
def Ob(H:Hp)(l d:Nat)(c:vN):Prop:=H[l]? =some (.inst c d)∨c=.domain∧∃xs,H[l]? =some (.dom xs d)
theorem bf.inst(n:bf C ρ H s)(q:Ob H l d c)(hd:H[d]? =some (.attrs fs))(ha:ρ[l]? =some a){G:Prop}
  (k:∀dx es k ox,ρ[d]? =some dx→Tw C.w s.heap a dx (fX c) fs es k ρ ox→G):G:=by
 rcases q with hl|⟨rfl,xs,hl⟩
 ·obtain⟨ob,ho,sm,dx,IE,rfl⟩:=n.at hl ha;obtain⟨ob2,Xa,sm2,es,m,rfl,nd,f⟩:=n.at hd IE;exact k dx es m _ IE ⟨⟨ho,rfl,rfl,Xa⟩,rfl,f,nd,Xa⟩
 ·obtain⟨ob,ho,sm,dx,vs,q,IE,rfl,hv⟩:=n.at hl ha;obtain⟨ob2,Xa,sm2,es,m,rfl,nd,f⟩:=n.at hd IE;exact k dx es m _ IE ⟨⟨ho,rfl,rfl,Xa⟩,rfl,f,nd,Xa⟩
theorem xq(w:bz)(c:vN)(a:Attr):findIn (KK w) (.ref (fX c)) (attrS a)=some none:=by cases c<;>cases a<;>rfl
theorem kU(w:bz)(c:vN):hasDictIn (KK w) (fX c)=true:=by cases c<;>rfl
end
section
variable{w:bz}{A:aG}{s:aB}{ρ:List ah}{a dx:ah}{fs:List (Attr×AV)}{es:List gf}{k:Nat}{ox:Obj}{E:Value→aB→Prop}
theorem QB(X:(KK w).In s.heap)(D:Tw w s.heap a dx (fX c) fs es k ρ ox)(hc:c≠.domain)(hg:getL (attrS at_) es=some (some v'))(hh:handedIn v'=true)(h:Q v' {s with toks:=s.toks+1}):
  wpAny (model PG w) A (getAttr (.ref a) (attrS at_) ex) Q E s:=
 get_value X D.inst (by cases c<;>first|rfl|exact absurd rfl hc) (findObj_own (kU w c) (xq w c at_) rfl (by rw[Gn];exact hg)) hh h
theorem Ue(X:(KK w).In s.heap)(D:Tw w s.heap a dx 303 fs es k ρ ox)(hg:getL (attrS at_) es=some (some v'))(hh:handedIn v'=true)(h:Q v' {s with toks:=s.toks+1}):
  wpAny (model PG w) A (getAttr (.ref a) (attrS at_) ex) Q E s:=by
 obtain⟨hp,g,d,t,os⟩:=s;haveI L0:=D.inst.type (M:=model PG w);haveI L1:=oY (M:=model PG w) X (show findIn (KK w) (.ref 303) "__getattribute__" =some (some (.builtin "list.__getattribute__"))from rfl);haveI L2:=oY (M:=model PG w) X (show findIn (KK w) (.ref 303) "__getattr__" =some none from rfl);haveI L3:=looks_find (M:=model PG w) X D.inst (findObj_own (name:=attrS at_) (kU w .domain) (xq w .domain at_) rfl (by rw[Gn];exact hg));haveI x:vj hp a (.ref 303):=⟨ox,D.inst.at_,D.inst.cls⟩;delta getAttr getAttrBy;refine af (FN (dB (af (L0.at (af (L1.at ?_))))));show wpAny _ _ (getAttrByItsOwn _ _ _ _ _ _) _ _ _;delta getAttrByItsOwn hookBefore callGetattribute boundAndCalled;refine af (L2.at ?_);refine af (Aw (dB ?_));refine aa (au (show ¬((ex&&onTheHeap (Value.builtin "list.__getattribute__"))=true) by simp[onTheHeap])) ?_;rw[F.slot_list_getattribute.bind];refine af (aE ?_);refine iw (i:= "list.__getattribute__") (owner:= "list") (n:= "__getattribute__") ⟨.inl (by decide+kernel),by decide+kernel,by decide+kernel,F.entry_list_ga⟩ X x rfl (F.args_list_getattribute_2 _ _) ?_;delta Builtin.«object.__getattribute__»;refine af (aE (af (aE (af (L0.at (af (L3.at ?_)))))));refine aE ?_;show wpAny _ _ (handedOut v') _ _ _;exact aa (handedOut_of hh) (aE h)
end
structure At'(u:AV)(q:Attr)(H:Hp)(w:AV):Prop where
 go:∀{ex:Bool},Op1 (fun v=>getAttr v (attrS q) ex) VR u H w H
noncomputable instance iC6{u:AV}{q:Attr}{H:Hp}{w:AV}:CoeFun (At' u q H w) fun _=> ∀{ex:Bool},Op1 (fun v=>getAttr v (attrS q) ex) VR u H w H:=⟨fun h=>h.go⟩
theorem YT{fs:List (Attr×AV)}(o:Ob H l d c)(hd:H[d]? =some (.attrs fs))(hf:fget q fs=some w):At' (.loc l) q H w:=⟨fun{_}=>⟨fun{C A ρ _} K x=>
 VR.eF x fun a ha s n _ _ h=>n.inst o hd ha fun dx es k ox _ D=>by
  rcases KA D.rel q with⟨q1,_⟩|⟨MO,XR,q1,q2,q3⟩
  ·rw[hf]at q1;cases q1
  ·cases hf.symm.trans q1
   by_cases hc:c=.domain
   ·subst hc;exact Ue (n.jl K.B).X D q2 (zH q3) (h ρ _ _ (.toks ρ s _ _) (n.toks _) q3)
   ·exact QB (n.jl K.B).X D hc q2 (zH q3) (h ρ _ _ (.toks ρ s _ _) (n.toks _) q3)⟩⟩
open PySem PySem.W PyProof.Rows PySem.SeqAt PySem.Calls PySem.MeetsSeq Builtin Builtin.ObjectAttr
theorem HK(self:Value):refuseLoop self "__setattr__" [.ref 303,.type "list",.type "object"]=pure ():=by
 rw[refuseLoop_ref];kernel_rfl
theorem Ug(w:bz):(clsIn (KK w) 303).map (·.mro)=some [.ref 303,.type "list",.type "object"]:=rfl
theorem HM(w:bz)(c:vN):∃cd,clsIn (KK w) (fX c)=some cd∧(∀self,refuseLoop self "__setattr__" cd.mro=pure ())∧cd.hasDict=true∧cd.mro.isEmpty=false∧cd.mro.contains (.type "object")=true:=by
 by_cases hc:c=.domain
 ·subst hc;refine bE (uB.mp (Ug w)) fun cd h1 h2=>?_;refine bE (any_some (kU w .domain)) fun cd' h3 h4=>?_;rw[show clsIn (KK w) (fX .domain)=some cd from h1]at h3;cases h3;exact⟨cd,h1,fun self=>by refine aa h2 ?_;exact HK self,h4,by refine aa h2 ?_;rfl,by refine aa h2 ?_;rfl⟩
 ·haveI hp:plainOver (KK w) (fX c)=true:=by cases c<;>first|rfl|exact absurd rfl hc
  refine bE (any_some hp) fun cd h1 ho=>?_;refine bE (any_some (kU w c)) fun cd' h3 h4=>?_;rw[h1]at h3;cases h3;exact⟨cd,h1,fun self=>refuse_only self ho,h4,by cases q:cd.mro with|nil=>rw[q]at ho;cases ho|cons _ _=>rfl,only_has ho⟩
theorem PD(h:e.key.isStr name=true):putL name hh key v (e::r)=⟨e.hash,e.key,v⟩::r:=aF h
theorem PE(h:e.key.isStr name=false):putL name hh key v (e::r)=e::putL name hh key v r:=au (h▸uz)
theorem QC(name:Str)(h:Int)(key v:Value):∀es:List gf,(putL name h key v es).length≤es.length+1:=by
 intro rv
 induction rv with
 |nil=>
  exact Nat.le_refl _
 |cons e es ih=>
  by_cases q:e.key.isStr name=true
  ·exact aa (PD q) (Nat.le_succ _)
  ·exact aa (PE (eq_false_of_ne_true q)) (Nat.succ_le_succ (ih))
section
variable{w:bz}{A:aG}{s:aB}{ρ:List ah}{a dx:ah}{fs:List (Attr×AV)}{es:List gf}{k:Nat}{ox:Obj}{E:Value→aB→Prop}
theorem B7(X:(KK w).In s.heap)(D:Tw w s.heap a dx (fX c) fs es k ρ ox)(hz:es.length≤1000)
  (h:Q () {s with heap:=s.heap.update dx (F9 (attrS at_) (AY w.params (attrS at_)) (.str (attrS at_) (s.toks+1)) v),toks:=s.toks+2}):
  wpAny (model PG w) A (setAttr (.ref a) (attrS at_) v) Q E s:=by
 refine Tv (HM w c) fun cd hc hr hd lU IG=>?_;obtain⟨hp,gg,dr,tk,os⟩:=s;refine set_plain X D.inst (by cases c<;>rfl) ?_
 haveI SF:=PySem.F.store_object;haveI T:=D.inst.type (M:=model PG w);haveI sub:eX (model PG w) hp (isInstance (.ref a) (.type "object")) true:=T.andThen (Gi X (by delta mroIn;rw[hc,OS,au (by rw[lU];decide),IG]));refine wH SF.slot.plain SF.entry (@check_slot (model PG w) _ _ _ "object.__setattr__" "object" "__setattr__" (.ref a) [.str (attrS at_) tk,v] [] _ SF.kind SF.split sub (SF.args (.ref a) (.str (attrS at_) tk) v) ?_);haveI hm:eX (model PG w) hp (mroOf (.ref (fX c))) cd.mro:=(Gj X hc).andThen .now;rw[osa_eq,refuse_eq];refine af (af (T.at (af (hm.at ?_))));rw[hr];refine aE (af (T.at (af ((oY X (xq w c at_)).at (af ?_)))));refine aE ?_;show wpAny _ _ (storeInOwnDict _ _ _ _ _ _) _ _ _;obtain⟨⟨hx,hcl,hn,V2⟩,Wr,rel,nd,hat⟩:=D;obtain⟨oc,odi,oda,osl⟩:=ox;dsimp only at hcl Wr;subst hcl Wr;refine af (aE (af (af (ux hx (af ((Gj X hc).at ?_))))));refine aa hd (aE (a:=some dx) (af (aE (af ?_))));delta nsSet;refine af (af (FA (aE (af (FN (af (ux hat ?_)))))));haveI hno:(dictOf es k).data=.dict es.toArray k:=rfl;refine aa hno ?_;dsimp only;haveI c0:(!es.toArray.any (·.key.isStr (attrS at_))&&es.toArray.any (·.refKey))=false:=by
  (refine ez Array.any_toList (ez Array.any_toList ?_))
  rw[show es.toArray.toList.any (·.refKey)=false from tW rel,OI]
 rw[aRefKeyMayBeTheName_at,c0];refine wpAny_updatePart hat ?_;haveI D':(hp.update dx (F9 (attrS at_) (AY w.params (attrS at_)) (.str (attrS at_) (tk+1)) v)).get? dx=some (F9 (attrS at_) (AY w.params (attrS at_)) (.str (attrS at_) (tk+1)) v (dictOf es k)):=by
  refine Heap.get?_update_self _ hat ?_;rw[Gh];rfl
 refine af (wpAny_lookBehind D' ?_ ?_)
 ·rw[Gh];refine pastItsLine_dict ?_;haveI:=QC (attrS at_) (AY w.params (attrS at_)) (.str (attrS at_) (tk+1)) v es
  (refine aa wj (aa tE ?_));lia
 ·exact aE h
end
theorem KC(h:bh (FR ρ) fs es)(a:Attr)(hv:VR ρ x v)(hh:Int)(t:Tok):
  bh (FR ρ) (vR a x fs) (putL (attrS a) hh (.str (attrS a) t) v es):=by
 induction h with
 |nil=>exact .cons ⟨⟨t,rfl⟩,hv⟩ .nil
 | @cons f e fs es h1 h2 ih=>
  obtain⟨b,y⟩:=f;haveI e1:=xT h1 a
  by_cases q:b=a
  ·(refine aa (Pp q) (aa (PD (e1.trans (by simp[q]))) ?_))
   exact .cons ⟨h1.1,hv⟩ h2
  ·(refine aa (Pq q) (aa (PE (e1.trans (by simp[q]))) ?_))
   exact .cons h1 ih
theorem KD(a:Attr)(x:AV):∀{fs:List (Attr×AV)},(fs.map (·.1)).Nodup→((vR a x fs).map (·.1)).Nodup∧∀b,b∈(vR a x fs).map (·.1)↔b=a∨b∈fs.map (·.1):=by
 intro rv
 induction rv with
 |nil=>
  intro _;exact⟨dO.mpr ⟨(fun h_=>nx h_),.nil⟩,fun b=>bw⟩
 |cons p_ fs ih=>
  obtain⟨b,y⟩:=p_;intro h;rw[gC,dO]at h;refine iK (ih h.2) fun i1 i2=>?_
  by_cases q:b=a
  ·subst q;refine aa (Pp rfl) ⟨by rw[gC,dO];exact h,fun c=>by simp⟩
  ·refine aa (Pq q) ⟨by rw[gC,dO];exact⟨fun z=>by rcases(i2 b).mp z with e|e;exact q e;exact h.1 e,i1⟩,fun c=>by
    rw[gC,bw,i2];simp[or_left_comm]⟩
theorem KG:∀(l:List Attr),l.Nodup→l.length≤6:=fun l h=>by
 haveI:l.length≤ [mG.solver,.constraints,.eE,.cy,.hidden,.fh].length:=by
  refine OV h fun a _=>?_;cases a<;>simp
 simpa using this
noncomputable abbrev UR:sU Unit Unit:=fun _ _ _=>True
abbrev Sa(u:AV)(q:Attr)(v:AV)(H H':Hp):Prop:=V0 (fun x y=>setAttr x (attrS q) y) UR u v H () H'
theorem YV(o:Ob H l d c)(hd:H[d]? =some (.attrs fs)):Sa (.loc l) q v H (H.set d (.attrs (vR q v fs))):=⟨fun{C A ρ _ _} K x y=>
 VR.eF x fun a ha s n _ _ h=>n.inst o hd ha fun dx es k ox IE D=>by
  haveI hz:es.length≤1000:=by
   haveI h1:=KG _ D.nd;rw[bR]at h1;exact ez D.rel.length (Nat.le_trans h1 (by decide))
  refine B7 (n.jl K.B).X D hz (h ρ _ _ (.toks ρ s _ _) (n.upd IE D.at_ ⟨trivial,?_⟩ rfl rfl) trivial);rw[Gh];exact⟨_,_,rfl,(KD q v D.nd).1,KC D.rel q y _ _⟩⟩
abbrev abU(x:Str):Prop:=x=av "a" ∨x=av "b" ∨x=av "c"
theorem Uh(hx:abU x):Op1 (fun v=>call (.builtin "repr") [v]) VR (.str x) H (.CB false) H:=⟨fun{C A ρ _} K y=>VR.J1 y fun t s n _ _ h=>by
 have hl:(reprText x).length≤4096:=by rcases hx with rfl|rfl|rfl<;>decide+kernel
 exact P.repr_of_str (h ρ _ _ (.toks ρ s _ _) (n.toks _) ⟨_,_,rfl,fun _=>hl⟩) (Nat.le_trans hl (by decide+kernel))⟩
abbrev PSt:=List Value×Builtin.Str.Writer×List Nat
theorem YW[d:Decidable c](e:o=if c then some (.str y u)else none):KPc.Obj o y:=by
 cases d with
 |isTrue h=>exact KPc.obj_some e
 |isFalse h=>exact KPc.obj_none e
open Builtin.Str in
theorem pct{Γ:Prop}(hy:y.length≤1000000) (κ:∀(f:Nat→PSt→Sem (ForInStep PSt)) (g:PSt→Sem PySem.Fin),
  (∀{M:k7}{A:aG}{E:Value→aB→Prop}{s:aB}{Q:PySem.Fin→aB→Prop},(∀w',tO w' PySem.Str.empty 0→wpAny M A (forIn (List.range' 0 X.length 1) ([.str y u],w',X.cps.toList) f) (fun r s=>wpAny M A (g r) Q E s) E s)→wpAny M A (percentFormat (.str X t) X (.str y u)) Q E s)→
  (∀{M:k7}{A:aG}{E:Value→aB→Prop}{s:aB}{Q:PSt→aB→Prop}{w':Writer}{T:Str}{N i:Nat}{l:List Nat}{r:List Nat},tO w' T N→N≤16777216→(∀w',tO w' (T++y) (N+1000000)→wpAny M A (forIn l ([],w',r) f) Q E s)→wpAny M A (forIn (i::l) ([.str y u],w',37::115::r) f) Q E s)→
  (∀{M:k7}{A:aG}{E:Value→aB→Prop}{s:aB}{Q:PSt→aB→Prop}{p:List Value}{w':Writer}{T:Str}{N i a:Nat}{l:List Nat}{r d q:List Nat},tO w' T N→N≤16777216→r.span (· !=37)=(a::d,q)→r.isEmpty=false→(d.length+1==X.length)=false→(∀w',tO w' (T++⟨(a::d).toArray⟩) (N+(d.length+1))→wpAny M A (forIn l (p,w',q) f) Q E s)→wpAny M A (forIn (i::l) (p,w',r) f) Q E s)→
  (∀{M:k7}{A:aG}{E:Value→aB→Prop}{s:aB}{Q:PySem.Fin→aB→Prop}{w':Writer}{T:Str}{N i:Nat}{l:List Nat},tO w' T N→N≤16777216→(∀t k,Q (.done (.ret (.str T t))) {s with toks:=k})→wpAny M A (forIn (i::l) ([],w',[]) f) (fun r s=>wpAny M A (g r) Q E s) E s)→Γ):Γ:=by
 obtain⟨b,hb⟩:=KPc.fills_str y u;refine' κ _ _ ?a ?b ?c ?d
 case a=>
  intro M A E s Q h;unfold Builtin.Str.percentFormat;refine af (wI (typeIs_str _ _ _) F.sub_str_tuple ?_);refine af (mD (a:=some _) rfl ?_);refine af (mD hb ?_)
  kpc_if
  refine af (aE ?_);refine af ?_;rw[KPc.range_list];refine KPc.start ?_;exact h
 case b=>
  intro M A E s Q w' T N i l r hg hn h;refine GI (tG (A3 (GH hg hn) ?_));show wpAny _ _ (holding [.str y u] (Builtin.Str.strOf (.str y u)>>=_)>>=_) _ _ _;refine af (dB (af (mD (KPc.strOf_str _ _) (af (mD (a:=some _) rfl (aE (aE ?_)))))));exact KPc.after_str hg hy (YW rfl) h
 case c=>
  intro M A E s Q p w' T N i a l r d q hg hn h1 h2 h3 h;refine GI (tG (A3 (GH hg hn) (tG (A3 (fun e=>nf (h2.symm.trans e)) ?_))));rw[h1]
  kpc_if
  refine aE ?_;refine KPc.after_add hg rfl (KPc.obj_none (au (by exact fun e=>nf (h3.symm.trans e)))) h
 case d=>
  intro M A E s Q w' T N i l hg hn h;refine GI (tG (A3 (GH hg hn) (aE ?_)));exact KPc.finish_ok hg hn rfl h
section
variable{C:Cx}{A:aG}{ρ:List ah}{w:bz}{E:Value→aB→Prop}{s:aB}{y:Str}{t u:Tok}{Q:Value→aB→Prop}
theorem M0{X:Str}(hX:X=⟨⟨37::115::c::R⟩⟩)(hs:(c::R).span (· !=37)=(c::R,[]))(hR:R.length+1≤10000)(hy:y.length≤1000000)(h:∀z t' k,Q (.str z t') {s with toks:=k}):wpAny (model PG w) A (binaryOp .Mod (.str X t) (.str y u)) Q E s:=by
 refine KPc.mod_str (T:=fun z=>Str.empty++z++⟨(c::R).toArray⟩) hX hy (fun z hz=>KPc.meets_of fun _ _ _ _ _ _ q=>?_) (h _);rw[OZ];refine pct hz fun f g ka kb kc kd=>ka fun w1 g1=>kb g1 (Nat.zero_le _) fun w2 g2=>kc g2 (by decide) hs rfl ?_ fun w3 g3=>kd g3 ?_ q
 ·exact beq_eq_false_iff_ne.mpr (by show R.length+1≠R.length+1+1+1;omega)
 ·omega
theorem aai{R:List Nat}(hX:X=⟨⟨c::d::e::R⟩⟩)(hs:(c::d::e::R).span (· !=37)=(a::L,[37,115]))(hR:L.length+1≤10000)(hl:(L.length+1==R.length+3)=false)(hy:y.length≤1000000)(h:∀z t' k,Q (.str z t') {s with toks:=k}):wpAny (model PG w) A (binaryOp .Mod (.str X t) (.str y u)) Q E s:=by
 refine KPc.mod_str (T:=fun z=>Str.empty++⟨(a::L).toArray⟩++z) hX hy (fun z hz=>KPc.meets_of fun _ _ _ _ _ _ q=>?_) (h _);rw[OZ];refine pct hz fun f g ka kb kc kd=>ka fun w1 g1=>kc g1 (Nat.zero_le _) hs rfl hl fun w2 g2=>kb g2 ?_ fun w3 g3=>kd g3 ?_ q
 ·omega
 ·omega
theorem Ui(hx:rz x=true)(hy:y.length≤1000000)(h:∀z t' k,Q (.str z t') {s with toks:=k}):wpAny (model PG w) A (binaryOp .Mod (.str x t) (.str y u)) Q E s:=by
 unfold rz abN at hx;simp only[Oz,OC,Gd,OG,beq_iff_eq]at hx;rcases hx with rfl|rfl|rfl|rfl
 ·refine' aai ?e ?s ?k ?l hy h;(case e=>kpc_eq);(case s=>exact rfl);all_goals decide
 ·refine' M0 ?e1 ?s1 ?k1 hy h;(case e1=>kpc_eq);(case s1=>exact rfl);all_goals decide
 ·refine' M0 ?e2 ?s2 ?k2 hy h;(case e2=>kpc_eq);(case s2=>exact rfl);all_goals decide
 ·refine' M0 ?e3 ?s3 ?k3 hy h;(case e3=>kpc_eq);(case s3=>exact rfl);all_goals decide
end
theorem YX(hx:rz x=true):Bo .mod (.str x) (.CB false) H (.CB true) H:=⟨fun{C A ρ _ _} K a b=>VR.J1 a fun t=>b.elim fun y hb=>hb.elim fun t' hb=>by
 obtain⟨rfl,hy⟩:=hb;exact fun s n _ _ h=>Ui hx (Nat.le_trans (hy rfl) (by decide)) fun z t' k=>h ρ _ _ (.toks ρ s _ _) (n.toks _) ⟨_,_,rfl,fun q=>nt q⟩⟩
open PySem PySem.W PyProof.Rows PySem.SeqAt PySem.Calls PySem.MeetsSeq Builtin Builtin.ObjectAttr Builtin.Getset_descriptor
theorem Eb:entryFor table "type.__name__" =some Builtin.«type.__name__» :=entryFor_of_tree (by kernel_rfl)
theorem HN:typeOf (.builtin "type.__name__")=pure (.type "getset_descriptor"):=by show builtinType _=_;refine aa builtinType_eq_fast ?_;kernel_rfl
theorem Ec:descrOwnerAndName "type.__name__" =("type", "__name__"):=by decide+kernel
section
variable{w:bz}{A:aG}{s:aB}{Cc:ah}{E:Value→aB→Prop}
theorem KH(hC:s.heap.get? Cc=some ⟨oc,od,.cls cd,sl⟩)(hs:sl[2]? =some (some (.str x t₀)))(X:(KK w).In s.heap)(hi:instIn (KK w) (.ref Cc) (.type "type")=some true)
  (h:R (.ok (.ret (.str x t₀))) s):codeAny (model PG w) A (.call (.builtin "getset_descriptor.__get__") ⟨[.builtin "type.__name__",.ref Cc,.type "type"],[]⟩) R s:=by
 obtain⟨hh,g,dr,t,os⟩:=s;haveI L0:=looks_instIn (M:=model PG w) X hi;refine wH KF.slot_gs.plain KF.entry_gs (KF.slot_gs.check _ _ _ _ _ _ _ _ HN (KF.args_gs _ _ _) ?_);delta Builtin.«getset_descriptor.__get__» descrGet;rw[dga_obj];refine af (aE ?_);delta descrGetter descrCheckInstance descrNameAndClass;dsimp only[Ec];refine af (af (aE (af (L0.at ?_))));refine aE ?_;refine aE ⟨O6 _ (by decide+kernel),oA Eb ?_⟩;delta Builtin.«type.__name__» keptObject slotAt;refine af (af (ux hC (aE ?_)));dsimp only;haveI e:sl[2]?.join=some (.str x t₀):=by refine aa hs ?_;rfl
 exact aa e (aE h)
end
theorem KI(w:bz)(c:vN)(hc:c=.solver∨c=.recursive):∃oc od cd sl x t,(KK w).lookup (fX c)=some ⟨oc,od,.cls cd,sl⟩∧sl[2]? =some (some (.str x t))∧x.length≤4096:=by
 rcases hc with rfl|rfl
 ·exact⟨_,_,_,_,av "Solver",_,rfl,rfl,by decide+kernel⟩
 ·exact⟨_,_,_,_,av "RecursiveBacktrackingSolver",_,rfl,rfl,by decide+kernel⟩
section
variable{C:Cx}{A:aG}{ρ:List ah}{H H1:Hp}{env:Env}
theorem KJ{E:Value→aB→Prop}(hc:c=.solver∨c=.recursive)(X:(KK w).In s.heap)(h:∀x t,x.length≤4096→Q (.str x t) {s with toks:=s.toks+1}):
  wpAny (model PG w) A (getAttr (.ref (fX c)) (av "__name__") ex) Q E s:=by
 refine ac2 (KI w c hc) fun oc od cd sl x t e1 e2 e3=>?_;refine cls_bind (mc:=.type "type") (g:=.builtin "getset_descriptor.__get__") (a:=.builtin "type.__name__") (obj:=.ref (fX c)) (tp:=.type "type") X (by rcases hc with rfl|rfl<;>rfl) (by rcases hc with rfl|rfl<;>rfl) ?_
 refine kq (KH (s:={s with toks:=s.toks+1}) (X _ _ e1) e2 X (by rcases hc with rfl|rfl<;>rfl) ?_)
 exact handed_on rfl (h x t e3)
theorem get_cls{E:Value→aB→Prop}{Q:Value→aB→Prop}{c:vN}{ex:Bool}(hc:c=.solver∨c=.recursive)(X:(KK w).In s.heap)(I:InstAt s.heap a ox (fX c) (some od))(h:Q (.ref (fX c)) {s with toks:=s.toks+1}):
  wpAny (model PG w) A (getAttr (.ref a) (av "__class__") ex) Q E s:=
 get_bind X I (by rcases hc with rfl|rfl<;>rfl) (findObj_data (a:=.builtin "object.__class__") (g:=.builtin "getset_descriptor.__get__") (by rcases hc with rfl|rfl<;>rfl) (by rcases hc with rfl|rfl<;>rfl) (by rcases hc with rfl|rfl<;>rfl) (by rcases hc with rfl|rfl<;>rfl)) (by rcases hc with rfl|rfl<;>rfl)
  (kq (class_get (s:={s with toks:=s.toks+1}) (ox:=ox) (od:=some od) X I (by rcases hc with rfl|rfl<;>rfl) (handed_on rfl h)))
theorem kW(h:(match o with|.Call (.Name _ _) [] [] _=>false|_=>true)=true):attributeBase o name env wh=wh:=by
 cases o with
 |Call f as ks p=>
  cases f with
  |Name a b=>
   cases as with
   |nil=>
    cases ks with
    |nil=>cases h
    |cons=>rfl
   |cons=>rfl
  |_=>rfl
 |_=>rfl
noncomputable def baseOk(o:aQ):Bool:=match o with|.Call (.Name _ _) [] [] _=>false|_=>true
theorem iX(value:aQ)(attr:Str)(pos:Pos):PySem.eval (.Attribute value attr pos) env=(do
  let o ←attributeBase value attr env (PySem.eval value env)
  PySem.standAt pos.atName
  let r ←PySem.holding [o] (getAttr o attr true)
  letTemporaryGo value o r
  pure r):=rfl
theorem Sm.letGo(h:VR ρ x v):Sm C A ρ VR H x H (letTemporaryGo value o v>>=fun _=>jU v):=fun s n _ _ q=>af (Fw (aE (q ρ s v (.refl ρ s) n h)))
theorem Uj(K:Kb C A)(hb:baseOk value=true)(ho:Sm C A ρ VR H u H1 (PySem.eval value env))(k:At' u q H1 w):Sm C A ρ VR H w H1 (PySem.eval (.Attribute value (attrS q) pos) env):=by
 rw[iX,kW hb];exact ho.bind fun aD v p hx=>Sm.standAt ((k K hx).holding.bind fun cE u jw hy=>.letGo hy)
theorem cls_sm(K:Kb C A)(hb:baseOk value=true)(ho:Sm C A ρ VR H (.loc l) H1 (PySem.eval value env))(hl:H1[l]? =some (.inst c d))(hc:c=.solver∨c=.recursive):
  Sm C A ρ VR H (.CB false) H1 (PySem.eval (.Attribute (.Attribute value (av "__class__") i6) (av "__name__") jw) env):=by
 rw[iX,kW rfl,iX,kW hb];haveI go:∀aD v,VR aD (.loc l) v→Sm C A aD (fun _ _ v=>v=.ref (fX c)) H1 () H1 (do
   PySem.standAt i6.atName
   let r ←PySem.holding [v] (getAttr v (av "__class__") true)
   letTemporaryGo value v r
   pure r):=fun aD v hx=>VR.eF hx fun a ha=>Sm.standAt fun s n _ _ h=>by
  obtain⟨ob,EG,sm,dx,IE,rfl⟩:=n.at hl ha;haveI n0:=n;obtain⟨N,S,D,b⟩:=n;refine(D.lt IE).elim fun od Xb=>(D.ob d od Xb).elim fun dx' e=>e.elim fun odd e=>?_;haveI I:InstAt s.heap a ⟨.ref (fX c),some dx,.plain, #[]⟩ (fX c) (some odd):=⟨EG,rfl,rfl,(kP (IE.symm.trans e.1))▸S.get e.2.1⟩;exact af (dB (get_cls hc (n0.jl K.B).X I (af (Fw (aE (h aD _ _ (.toks aD s _ _) (n0.toks _) rfl))))))
 refine(ho.bind fun aD v p hx=>go aD v hx).bind fun cE v p hv=>VR.qR hv ?_;exact Sm.standAt (Sm.bind (R:=VR) (a:=AV.CB false) (fun s n _ _ h=>dB (KJ hc (n.jl K.B).X fun x t hx=>h cE _ _ (.toks cE s _ _) (n.toks _) ⟨x,t,rfl,fun _=>hx⟩)) fun jf u p hu=>.letGo hu)
end
open PySem PySem.W PyProof.Rows PySem.SeqAt PySem.Calls PySem.MeetsSeq Builtin
noncomputable def Ai(w:bz)(k:AV)(key v:Value):List gf→List gf
 |[]=>[⟨(bH w).hash k,key,v⟩]
 |e::r=>if(bH w).is k e.key then{e with val:=v}::r else e::Ai w k key v r
noncomputable def E3(w:bz)(k:AV):List gf→List gf
 |[]=>[]
 |e::r=>if(bH w).is k e.key then r else e::E3 w k r
theorem PF(h:(bH w).is k e.key=true):Ai w k key v (e::r)={e with val:=v}::r:=aF h
theorem PJ(h:(bH w).is k e.key=false):Ai w k key v (e::r)=e::Ai w k key v r:=au (h▸uz)
theorem PK(h:(bH w).is k e.key=true):E3 w k (e::r)=r:=aF h
theorem PL(h:(bH w).is k e.key=false):E3 w k (e::r)=e::E3 w k r:=au (h▸uz)
theorem zI(w:bz)(k:AV)(key v:Value):∀es:List gf,
  (match es.findIdx? (fun x=>(bH w).is k x.key)with|some i=>es.modify i (fun e=>{e with val:=v})|none=>es++[⟨(bH w).hash k,key,v⟩])=Ai w k key v es
 |[]=>rfl
 |e::r=>by
  haveI ih:=zI w k key v r;refine aa AH ?_;cases q:(bH w).is k e.key with
  |true=>exact(PF q).symm
  |false=>
   refine aa (PJ q) (ez ih ?_);cases r.findIdx? (fun x=>(bH w).is k x.key)<;>simp
theorem KL(w:bz)(k:AV):∀(es:List gf)(i:Nat),es.findIdx? (fun x=>(bH w).is k x.key)=some i→es.eraseIdx i=E3 w k es:=by
 intro rv
 induction rv with
 |nil=>
  intro _ h;simp at h
 |cons e r ih=>
  intro i h;rw[AH]at h;cases q:(bH w).is k e.key with
  |true=>rw[q]at h;cases h;exact(PK q).symm
  |false=>
   rw[q]at h;refine aa (PL q) ?_;simp only[jT,if_false,uB]at h;obtain⟨j,hj,rfl⟩:=h;simp[ih j hj]
section
variable{w:bz}{ρ:List ah}
theorem xu(h:ER w ρ kv e)(k:AV):(bH w).is k e.key=decide (k=kv.1):=O4 (knd:=bH w) h.1 k
theorem Dk(f:bh (ER w ρ) kvs es)(hk:keyOk k=true)(vV:(bH w).is k key=true)(hv:VR ρ x v):bh (ER w ρ) (dput k x kvs) (Ai w k key v es):=by
 induction f with
 |nil=>
  refine .cons ⟨vV,?_,hv⟩ .nil;cases k<;>first|exact nf hk|exact Cv hk|(cases hk;done)|rfl
 | @cons kv e kvs es h1 h2 ih=>
  obtain⟨k',y⟩:=kv;haveI e1:=xu h1 k
  by_cases q:k'=k
  ·(refine aa (Ph q) (aa (PF (e1.trans (bN q.symm))) ?_))
   exact .cons ⟨h1.1,h1.2.1,hv⟩ h2
  ·(refine aa (Pj q) (aa (PJ (e1.trans (bP (dg q)))) ?_))
   exact .cons h1 ih
theorem QD(f:bh (ER w ρ) kvs es):bh (ER w ρ) (yx k kvs) (E3 w k es):=by
 induction f with
 |nil=>exact .nil
 | @cons kv e kvs es h1 h2 ih=>
  obtain⟨k',y⟩:=kv;haveI e1:=xu h1 k
  by_cases q:k'=k
  ·(refine aa (Pk q) (aa (PK (e1.trans (bN q.symm))) ?_))
   exact h2
  ·(refine aa (Pn q) (aa (PL (e1.trans (bP (dg q)))) ?_))
   exact .cons h1 ih
theorem found_iff(f:bh (ER w ρ) kvs es)(k:AV):(es.findIdx? (fun x=>(bH w).is k x.key)).isSome=(dJ k kvs).isSome:=by
 induction f with
 |nil=>rfl
 | @cons kv e kvs es h1 h2 ih=>
  obtain⟨k',y⟩:=kv;haveI e1:=xu h1 k
  (refine aa AH ?_;refine aa e1 ?_)
  by_cases q:k'=k
  ·(refine aa (Pa q) (aa (aF (by simp[q])) ?_));rfl
  ·(refine aa (Pg q) (aa (au (by simpa using fun e=>q e.symm)) ?_);refine aa Option.isSome_map ?_);exact ih
end
theorem KN(k x:AV):∀{kvs:List (AV×AV)},(kvs.map (·.1)).Nodup→((dput k x kvs).map (·.1)).Nodup∧∀b,b∈(dput k x kvs).map (·.1)↔b=k∨b∈kvs.map (·.1):=by
 intro rv
 induction rv with
 |nil=>
  intro _;exact⟨dO.mpr ⟨(fun h_=>nx h_),.nil⟩,fun b=>bw⟩
 |cons p_ kvs ih=>
  obtain⟨b,y⟩:=p_;intro h;rw[gC,dO]at h;refine iK (ih h.2) fun i1 i2=>?_
  by_cases q:b=k
  ·subst q;refine aa (Ph rfl) ⟨by rw[gC,dO];exact h,fun c=>by simp⟩
  ·refine aa (Pj q) ⟨by rw[gC,dO];exact⟨fun z=>by rcases(i2 b).mp z with e|e;exact q e;exact h.1 e,i1⟩,fun c=>by
    rw[gC,bw,i2];simp[or_left_comm]⟩
theorem Dl(k:AV):∀(kvs:List (AV×AV)),(yx k kvs).Sublist kvs:=by
 intro rv
 induction rv with
 |nil=>
  exact .slnil
 |cons p_ kvs ih=>
  obtain⟨b,y⟩:=p_
  by_cases q:b=k
  ·exact aa (Pk q) (List.sublist_cons_self _ _)
  ·exact aa (Pn q) ((ih).cons₂ _)
section
variable{w:bz}{A:aG}{s:aB}{a:ah}{E:Value→aB→Prop}{es:List gf}{ep:Nat}{k:AV}{key v:Value}
theorem Jb(vV:(bH w).is k key=true)(ho:s.heap.get? a=some (dictOf es ep))(hk:KeysOf (bH w) es.toArray)(hz:es.length<bQ)
  (h:∀f tk,f (dictOf es ep)=dictOf (Ai w k key v es) (if(es.findIdx? (fun x=>(bH w).is k x.key)).isSome then ep else ep+1)→Q () {s with heap:=s.heap.update a f,toks:=tk}):
  wpAny (model PG w) A (dictSet a key v) Q E s:=by
 haveI hes:es.toArray.size≤sizeLine:=by exact aa wj (Nat.le_trans (Nat.le_of_lt hz) cA)
 haveI pf:=zI w k key v es;delta dictSet
 try with_reducible refine dB ?_
 refine af ((bH w).pyHash vV ?_);delta dictSetHashed
 try with_reducible refine dB ?_
 refine af (N3 (s:={s with toks:=s.toks+1}) vV ho rfl hk ?_);rw[Oh];cases hi:es.findIdx? fun e=>(bH w).is k e.key with
 |some i=>
  rw[hi]at pf h;refine af (oE (af (wpAny_updateDict (s:={s with toks:=s.toks+1}) ho rfl (wpAny_point (h _ _ ?_)))));delta Obj.mapDict dictOf;dsimp only at pf ⊢;refine ez pf ?_;simp
 |none=>
  rw[hi]at pf h;refine af (oE (Ft (hz:=hes) (s:={s with toks:=s.toks+1}) ho rfl (h _ _ ?_)));delta F8 dictOf;dsimp only at pf ⊢;refine ez pf ?_;simp
theorem HO(vV:(bH w).is k key=true)(ho:s.heap.get? a=some (dictOf es ep))(hk:KeysOf (bH w) es.toArray)(hz:es.length<bQ)
  (h:∀f tk,f (dictOf es ep)=dictOf (Ai w k key v es) (if(es.findIdx? (fun x=>(bH w).is k x.key)).isSome then ep else ep+1)→Q () {s with heap:=s.heap.update a f,toks:=tk}):
  wpAny (model PG w) A (setItem (.ref a) key v) Q E s:=by
 haveI T:s.TypeIs (.ref a) "dict" :=⟨_,ho,rfl⟩;delta setItem
 try with_reducible refine dB ?_
 refine af (wpAny_sequenceKey T (by decide) ?_);refine af (CY (name:=av "__setitem__") T N4
  (oz N4 T entry_dict_setitem ?_ (args_dict_setitem _ _ _)))
 show wpAny _ _ (Builtin.Dict.notOrdered "__setitem__" ⟨[.ref a,key,v],[]⟩>>=_) _ _ s;refine af (Fq T ?_);show wpAny _ _ (dictSet a key v>>=_) _ _ s;exact af (Jb vV ho hk hz fun f tk e=>aE ⟨.none,rfl,aE (h f tk e)⟩)
theorem HP(vV:(bH w).is k key=true)(ho:s.heap.get? a=some (dictOf es ep))(hk:KeysOf (bH w) es.toArray)(hz:es.length<bQ)(hf:(es.findIdx? (fun x=>(bH w).is k x.key)).isSome=true)
  (h:∀f tk,f (dictOf es ep)=dictOf (E3 w k es) (ep+1)→Q () {s with heap:=s.heap.update a f,toks:=tk}):
  wpAny (model PG w) A (delItem (.ref a) key) Q E s:=by
 haveI hes:es.toArray.size≤sizeLine:=by exact aa wj (Nat.le_trans (Nat.le_of_lt hz) cA)
 haveI T:s.TypeIs (.ref a) "dict" :=⟨_,ho,rfl⟩;refine eY (zk.mp hf) fun i hi=>?_;haveI kJ:i<es.length:=(List.findIdx?_eq_some_iff_getElem.mp hi).1;refine NX T (by decide) F.slot_dict_delitem (oz F.slot_dict_delitem T F.entry_dict_delitem ?_ (F.args_dict_delitem_2 _ _));delta Builtin.«dict.__delitem__»;refine af ?_;delta Builtin.Dict.dictSlotArgs;refine af (Fq T ?_);show wpAny _ _ (pure (Value.ref a,key)) _ _ s;refine aE ?_;show wpAny _ _ (Builtin.Dict.takeOut a key>>=_) _ _ s;refine af ?_;delta Builtin.Dict.takeOut
 try with_reducible refine dB ?_
 refine af ((bH w).pyHash vV ?_);refine af (N3 (s:={s with toks:=s.toks+1}) vV ho rfl hk ?_);rw[Oh,hi];dsimp only;refine af (Ar (s:={s with toks:=s.toks+1}) ho rfl ?_);haveI e:es.toArray[i]? =some es[i]:=by simp[kJ]
 refine aa e ?_;dsimp only;haveI hle:(es.toArray.eraseIdxIfInBounds i).size≤es.toArray.size+1:=by
  delta Array.eraseIdxIfInBounds
  split
  ·rw[Array.size_eraseIdx];lia
  ·lia
 refine af (Ft (hz:=hes) (hf:=hle) (s:={s with toks:=s.toks+1}) ho rfl (aE ?_));refine af (qy (aE ⟨.none,rfl,h _ _ ?_⟩));delta F8 dictOf;dsimp only;refine ez (KL w k es i hi) ?_;delta Array.eraseIdxIfInBounds;refine aa (dif_pos (by simpa using kJ)) ?_;simp
end
section
variable{C:Cx}{A:aG}{ρ:List ah}{H:Hp}{s:aB}
structure Ss(u k v:AV)(H H':Hp):Prop where
 go:∀{C:Cx}{A:aG}{ρ:List ah}{x y z:Value},Kb C A→VR ρ u x→VR ρ k y→VR ρ v z→Sm C A ρ UR H () H' (setItem x y z)
noncomputable instance iC7{u k v:AV}{H H':Hp}:CoeFun (Ss u k v H H') fun _=> ∀{C:Cx}{A:aG}{ρ:List ah}{x y z:Value},Kb C A→VR ρ u x→VR ρ k y→VR ρ v z→Sm C A ρ UR H () H' (setItem x y z):=⟨fun h=>h.go⟩
theorem Uk(hl:H[l]? =some (.dict kvs ep))(hk:keyOk k=true)(sm:(dput k v kvs).length<bQ):Ss (.loc l) k v H (H.set l (.dict (dput k v kvs) (if(dJ k kvs).isSome then ep else ep+1))):=⟨fun{C A ρ _ _ _} K x y z=>
 VR.eF x fun a ha s n _ _ h=>n.map hl ha fun es h1 h2 h3 hm sz=>HO (jH hk y) h1 (jI h2) (h2.length▸sz) fun f tk ef=>
  h ρ _ _ (.toks ρ s _ tk) (n.upd ha h1 (by(refine aa ef (aa (found_iff h2 k) ?_));exact⟨sm,_,rfl,(KN _ _ h3).1,Dk h2 hk (jH hk y) z⟩) rfl rfl) trivial⟩
abbrev Ds(u k:AV)(H H':Hp):Prop:=V0 delItem UR u k H () H'
theorem Ul(hl:H[l]? =some (.dict kvs ep))(hk:keyOk k=true)(hs:(dJ k kvs).isSome=true):Ds (.loc l) k H (H.set l (.dict (yx k kvs) (ep+1))):=⟨fun{C A ρ _ _} K x y=>
 VR.eF x fun a ha s n _ _ h=>n.map hl ha fun es h1 h2 h3 hm sz=>by
  refine HP (jH hk y) h1 (jI h2) (h2.length▸sz) ((found_iff h2 k).trans hs) fun f tk ef=>h ρ _ _ (.toks ρ s _ tk) (n.upd ha h1 ?_ rfl rfl) trivial;exact aa ef ⟨Nat.lt_of_le_of_lt (Dl k kvs).length_le sz,_,rfl,((Dl k kvs).map _).nodup h3,QD h2⟩⟩
theorem Jc{sel:Nat→Bool}(xs:Array Value)(h:∀i,i<xs.size→sel i=decide (n≤i)):(xs.toList.zipIdx.filterMap fun(x,k)=>if sel k then none else some x).toArray=(xs.toList.take n).toArray:=by
 obtain⟨l⟩:=xs
 congr 1
 dsimp only at h ⊢;haveI key:∀(l:List Value)(b:Nat),(∀i,i<b+l.length→b≤i→sel i=decide (n≤i))→((l.zipIdx b).filterMap fun(x,k)=>if sel k then none else some x)=l.take (n -b):=by
  intro l
  induction l with
  |nil=>intro b _;simp
  |cons x l ih=>
   intro b hb
   (refine aa List.zipIdx_cons (aa Om ?_))
   haveI e1:=hb b (by simp) (Nat.le_refl _);refine aa (ih (b+1) fun i h1 h2=>hb i (by rw[Nat.add_right_comm]at h1;exact h1) (Nat.le_of_succ_le h2)) ?_
   by_cases q:n≤b
   ·rw[bN q]at e1;haveI e2:n -b=0:=Nat.sub_eq_zero_of_le q;haveI e3:n -(b+1)=0:=Nat.sub_eq_zero_of_le (Nat.le_succ_of_le q);simp[e1,e2,e3]
   ·rw[bP q]at e1;haveI e2:n -b=(n -(b+1))+1:=(Nat.succ_pred (Nat.sub_ne_zero_of_lt (Nat.lt_of_not_le q))).symm;simp[e1,e2]
 haveI:=key l 0 fun i h1 _=>h i (by simpa using h1)
 simpa using this
theorem KO{w:bz}{E:Value→aB→Prop}{k:Nat}{vl:Value}{lo:Option Int}{n:Nat}{Q:Unit→aB→Prop}(X:(KK w).In s.heap)(so:bY s.heap a (.type "list") none items k)(hz:items.size<bQ)
  (hs:s.heap.IsSliceOf sl vl .none .none) (pl:tK vl lo) (hb:sliceBounds lo none none items.size=((n:Int),(items.size:Int),1))
  (h:∀f tk,f items=(items.toList.take n).toArray→Q () {s with heap:=s.heap.update a (bK f),toks:=tk}):wpAny (model PG w) A (delItem (.ref a) (.ref sl)) Q E s:=by
 refine kZ (id hs) fun os SY hcs W9=>?_;haveI hTs:s.TypeIs (.ref sl) "slice" :=⟨os,SY,hcs⟩;haveI T:s.TypeIs (.ref a) "list" :=⟨_,so.at_,rfl⟩;refine NX T (by decide) F.slot_list_delitem (oz F.slot_list_delitem T F.entry_list_delitem ?_ (F.args_list_delitem_2 _ _));delta Builtin.«list.__delitem__»;refine af (aE ?_);refine af ?_;delta Builtin.List.listSubscript?;refine af (rm hTs slice_no_index ?_);dsimp only[OQ,if_true];refine aE ?_;refine af (wM hTs ?_);refine aa (au (by decide)) ?_;rw[N5];refine af (af (mE SY W9 (x:=.none) rfl (af (tC .none ?_))));refine aa (au (show ¬((rawPart none==rawInt 0)=true)from uz)) (af (mE SY W9 (x:=vl) rfl (af (tC pl ?_))));refine af (mE SY W9 (x:=.none) rfl (af (tC .none (aE ?_))));refine af (m:=Builtin.List.listItems (.ref a)) (fq so ?_);refine af (mD (sliceIndices_raw lo none none items.size (by simp)) ?_);refine aa hb ?_;dsimp only;haveI hk:∀{sel:Nat→Bool},(∀i,i<items.size→sel i=decide (n≤i))→((items.toList.zipIdx.filterMap fun(x,k)=>if sel k then none else some x).toArray).size≤bQ:=fun hs=>by
  refine aa (Jc items hs) ?_;simp;lia
 haveI sl':∀i:Nat,i<items.size→(if(1:Int)>0 then decide ((n:Int)≤(i:Int))&&decide ((i:Int)<(items.size:Int))&&(((i:Int) -(n:Int))%1==0)else decide ((items.size:Int)<(i:Int))&&decide ((i:Int)≤(n:Int))&&(((n:Int) -(i:Int))%(-1)==0))=decide (n≤i):=fun i hi=>by
  rw[aF (by decide),Int.emod_one];haveI h2:((i:Int)<(items.size:Int)):=Int.ofNat_lt.mpr hi;simp[h2]
 refine af (oE ?_);refine af (cY so hz (hk fun i hi=>sl' i hi) ?_);refine af (qy (aE ⟨.none,rfl,?_⟩));exact h _ _ (Jc items fun i hi=>sl' i hi)
theorem HQ(n:Nat):sliceBounds none none none n=(((0:Nat):Int),(n:Int),1):=by simp[sliceBounds]
theorem Ed(n:Nat)(h:k<0):sliceBounds (some k) none none n=(((n -(-k).toNat:Nat):Int),(n:Int),1):=
 (sliceBounds_plain _ _ n).trans (aR (fun z:Nat=>((z:Int),(n:Int),(1:Int))) ((aR (clipAt n) (A6 h).1).trans (clipAt_neg n _ (A6 h).2)))
end
section
variable{C:Cx}{A:aG}{ρ:List ah}{H:Hp}{s:aB}
abbrev KvR(ρ:List ah)(kv:AV×AV)(kv':AV×Value):Prop:=kv.1=kv'.1∧VR ρ kv.2 kv'.2
theorem QE(f:bh (ER w ρ) kvs es):∃ps:List (AV×Value),Pairs (bH w) es ps∧bh (KvR ρ) kvs ps:=by
 induction f with
 |nil=>exact⟨[],.nil,.nil⟩
 | @cons kv e kvs es h _ ih=>
  refine bE (ih) fun ps h1 h2=>?_;exact⟨(kv.1,e.val)::ps,.cons h.1 rfl h1,.cons ⟨rfl,h.2.2⟩ h2⟩
theorem QF(h:bh (KvR ρ) kvs ps):ps.map (·.1)=kvs.map (·.1):=by
 induction h with
 |nil=>rfl
 |cons a _ ih=>(refine aa gC (aa gC ?_);refine aa ih (aa a.1 ?_);with_reducible rfl)
theorem bf.dictAt(n:bf C ρ H s){l:Nat}(hl:H[l]? =some (.dict kvs ep))(ha:ρ[l]? =some a){G:Prop}(k:∀ps,s.heap.DictAt (bH C.w) a ps ep→bh (KvR ρ) kvs ps→s.TypeIs (.ref a) "dict" →G):G:=
 n.map hl ha fun es h1 h2 h3 hm sz=>(QE h2).elim fun ps h=>k ps ⟨_,es.toArray,h1,⟨rfl,rfl,rfl⟩,rfl,jI h2,h.1,by exact aa (QF h.2) h3⟩ h.2 ⟨_,h1,rfl⟩
variable{l ep:Nat}{a:ah}{kvs:List (AV×AV)}
theorem YY(ha:ρ[l]? =some a)(hl:H[l]? =some (.dict kvs ep))(hk:keyOk y=true)(hy:VR ρ y u)(hz:VR ρ z t):Sm C A ρ VR H ((dJ y kvs).getD z) H (call (.builtin "dict.get") [.ref a,u,t]):=fun s n _ _ h=>
 n.map hl ha fun es h1 h2 h3 hm sz=>call_meetsIn F.slot_dict_get ⟨_,h1,rfl⟩ F.entry_dict_get (F.args_dict_get_3 _ _ _) (meets_dict_get_default (knd:=bH C.w) (k:=y) a (jH hk hy) (n.o7 ha) t) ⟨_,hm,h ρ _ _ (.toks ρ s _ _) (n.toks _) (by
  rcases pF h2 y with⟨q1,q2⟩|⟨MO,XR,q1,q2,q3⟩<;>(refine aa q1 (aa q2 ?_))
  ·exact hz
  ·exact q3)⟩
theorem Um(ha:ρ[l]? =some a)(hl:H[l]? =some (.dict kvs ep)):Sm C A ρ VR H (.loc H.length) (H++[.dict kvs 0]) (call (.builtin "dict.copy") [.ref a]):=fun s n Q E hR=>
 n.map hl ha fun es ho h2 h3 hm sm=>by
  haveI hd:=n.o7 ha;have T:=(show s.TypeIs (.ref a) "dict" from⟨_,ho,rfl⟩);haveI hes:es.toArray.size≤sizeLine+1:=by
   (refine aa wj (ez h2.length ?_));exact Nat.le_succ_of_le (Nat.le_trans (Nat.le_of_lt sm) cA)
  refine oz F.slot_dict_copy T F.entry_dict_copy ?_ (F.args_dict_copy_1 _);haveI lU:¬((a==sysModules)=true):=by exact aa hd uz
  show wpAny _ _ (ite ((a==sysModules)=true) _ _) _ _ s;refine aa (au lU) ?_;show wpAny _ _ (Builtin.Dict.copyOf "dict.copy" (.ref a)>>=_) _ _ s;refine af ?_;unfold Builtin.Dict.copyOf;refine af (aE ?_);unfold Builtin.Dict.showsAll;refine aa (au lU) (af (aE ?_));refine af (Ar ho rfl ?_);haveI fin:∀vm:Array gf,vm=es.toArray→wpAny (model PG C.w) A.in1 (do
    let __do_lift ←bearsInstanceDictMark a
    if __do_lift=true then
     (match(Value.ref s.heap.objs.size)with
      |.ref ca=>do markAsInstanceDict ca;ret (Value.ref s.heap.objs.size)
      |_=>ret (Value.ref s.heap.objs.size))
    else ret (Value.ref s.heap.objs.size))
    (fun fin s'=> ∃v,fin=.done (.ret v)∧Q v s') E {s with heap:=s.heap.push {cls:=.type "dict",data:=.dict vm}}:=by
   rintro vm rfl
   unfold bearsInstanceDictMark;refine af (af (tF (Heap.get?_push_of_some _ ho) (aE ?_)));refine aa (au (show ¬(((dictOf es ep).cls==Value.type "dict" && !(dictOf es ep).slots.isEmpty)=true) by simp[dictOf])) (aE ⟨_,rfl,hR (ρ++[_]) _ _ ⟨fJ ..,rfl,Nat.le_refl _⟩ (n.push rfl rfl ⟨sm,es,rfl,h3,h2⟩) n.vr⟩)
  by_cases XS:es.toArray.isEmpty=true
  ·refine aa (aF XS) (af (oE (nK ?_)));exact fin #[] (Array.isEmpty_iff.mp XS).symm
  ·refine aa (au XS) (af ?_);unfold Builtin.Dict.readDirectly;refine af (wI T isSubtype_dict_dict ?_);dsimp only[Ge,jT,if_false];refine af (rm T F.slot_dict_iter.lookup (aE ?_));simp only[beq_self_eq_true,if_true];refine af (wpAny_entriesForEmpty (knd:=bH C.w) ho rfl (jI h2) (nK ?_ hes));exact fin es.toArray rfl
theorem KP(ha:ρ[l]? =some a)(hl:H[l]? =some (.dict kvs ep)):Sm C A ρ VR H (.loc H.length) (H++[.jB l]) (call (.builtin "dict.values") [.ref a]):=fun s n _ _ hR=>
 n.dictAt hl ha fun ps hd hp T=>call_meetsIn F.slot_dict_values T F.entry_dict_values (F.args_dict_values_1 _) (meets_dict_values (bH C.w) a (n.o7 ha)) ⟨⟨ps,hd.dictOf⟩,hR (ρ++[_]) _ _ ⟨fJ ..,rfl,Nat.le_refl _⟩ (n.push rfl rfl ⟨trivial,a,ha,rfl⟩) n.vr⟩
theorem QG(ha:ρ[l]? =some a)(hl:H[l]? =some (.dict kvs ep)):Sm C A ρ VR H .none (H.set l (.dict [] (ep+1))) (call (.builtin "dict.clear") [.ref a]):=fun s n Q E hR=>
 n.map hl ha fun es ho h2 h3 hm sm=>by
  refine oz F.slot_dict_clear ⟨_,ho,rfl⟩ F.entry_dict_clear ?_ (F.args_dict_clear_1 _);unfold Builtin.«dict.clear»;refine af ?_;unfold Builtin.Dict.noArgs;refine af (Fq ⟨_,ho,rfl⟩ ?_);show wpAny _ _ (pure a) _ _ s;refine aE ?_;refine af (Ar ho rfl ?_);refine af ?_;unfold bearsInstanceDictMark;refine af (tF ho (aE ?_));refine af (Ft (hz:=by(refine aa wj (ez h2.length ?_));exact Nat.le_trans (Nat.le_of_lt sm) cA) ho rfl ?_);have fin:=hR ρ {s with heap:=s.heap.update a (F8 fun _=> #[])} Value.none (.toks ρ s _ _) (n.upd ha ho ⟨(by decide:0<bQ),[],rfl,.nil,.nil⟩ rfl rfl) rfl
  split
  ·exact af (qy (aE ⟨.none,rfl,fin⟩))
  ·exact af (aE (aE ⟨.none,rfl,fin⟩))
end
noncomputable def abV:Fn→Str
 |.uC=>av "__init__" |.qC=>av "reset" |.iC=>av "getSolver" |.cz=>av "addVariable" |.dY=>av "addVariables"
 |.dI=>av "addConstraint" |.cT=>av "getSolution" |.dZ=>av "getSolutions" |.ig=>av "_getArgs"
 |.eH=>av "getSolution" |.d7=>av "getSolutions" |.dj=>av "getSolutionIter"
 |.wk=>av "__init__" |.aK=>av "getSolutionIter" |.bl=>av "getSolution" |.aZ=>av "getSolutions" |.wm=>av "__init__"
 |.ru=>av "__init__" |.gJ=>av "resetState" |.iD=>av "pushState" |.gO=>av "popState" |.gH=>av "hideValue"
 |.fW=>av "preProcess" |.aCall=>av "__call__"
 |.jk=>av "_law_added" |.ry=>av "_law_ways" |.gj=>av "_law_refused" |.Cu=>av "law"
noncomputable def nT:Meth→String
 |.append=> "append" |.pop=> "pop" |.extend=> "extend" |.remove=> "remove" |.index=> "index" |.sort=> "sort"
 |.get=> "get" |.copy=> "copy" |.values=> "values" |.clear=> "clear"
 |.fn _=> "?"
noncomputable def oM:Meth→Str
 |.fn fs=>abV (fs.headD .Cu)
 |m=>av (nT m)
noncomputable def noAttr(x:Str):Bool:=[mG.solver,.constraints,.eE,.cy,.hidden,.fh].all fun a=> !(attrS a==x)
theorem Ef(h:noAttr x=true)(a:Attr):(attrS a==x)=false:=(zj _).mp (iE.mp h a (by cases a<;>decide))
theorem vA(w:bz)(f:Fn):typeIn (KK w) (.ref (vh f))=some (.type "function"):=by cases f<;>rfl
theorem Un(w:bz)(f:Fn):keepIn (KK w) (.ref (vh f))=true:=by cases f<;>rfl
section
variable{w:bz}{A:aG}{s:aB}{a:ah}{c:Value}{E:Value→aB→Prop}
theorem j6(X:(KK w).In s.heap)(ho:s.heap.get? a=some o)(hc:o.cls=c)
  (e1:findIn (KK w) c "__getattribute__" =some (some (.builtin ga))) (hga:(O2 ga != "object.__getattribute__")=false) (e2:findIn (KK w) c "__getattr__" =some none) (e3:findIn (KK w) c name=some (some f))
  (ht:typeIn (KK w) f=some tf) (hk:(tf !=.type "function" &&tf !=.type "method_descriptor" &&tf !=.type "wrapper_descriptor")=false)
  (hd:match o.dict with|none=>True|some d=> ∃od,s.heap.get? d=some od∧lookIn name od=some none) (h:Q (f,[.ref a]) s):wpAny (model PG w) A (getMethod (.ref a) name pl) Q E s:=by
 haveI x:vj s.heap a c:=⟨o,ho,hc⟩;delta getMethod;refine af ((x.special X e1).here ?_);dsimp only
 (refine aa hga (aa (au (by decide)) ?_))
 refine af ((x.special X e2).here ?_);dsimp only[Option.isSome_none,jT,if_false];refine af ((x.special X e3).here ?_);dsimp only;refine af ((looks_typeIn X ht).here ?_)
 (refine aa hk (aa (au (by decide)) ?_))
 refine af (ux ho ?_);cases q:o.dict with
 |none=>exact af (oE (aE h))
 |some d=>
  rw[q]at hd;refine bE (hd) fun od h1 h2=>?_;dsimp only;refine af ?_;delta nsGet;refine af (ux h1 ?_);exact aa (nsLook_of h2) (aE (af (oE (aE h))))
theorem j7(tS:args.any (·.1)=false)
  (h:wpAny (model PG w) A (evalArgs f true args []) (fun x s₁=>(∃k,eX (model PG w) s₁.heap (keeperOf f) k)∧wpAny (model PG w) A (call f (first++x.pos) x.kw) Q E s₁) E s):wpAny (model PG w) A (callWith pos f first args []) Q E s:=by
 unfold callWith;refine af (dB (eV h (fun a s₁ iL=>af (gz ?_)) fun _ _ x=>x));obtain⟨⟨k,L⟩,iL⟩:=iL;simp only[tS,OC,Gd];refine af (L.here ?_);have tail:∀{t:Sem Value},wpAny (model PG w) A t Q E s₁→wpAny (model PG w) A (t>>=fun r=>PySem.holding [r] point>>=fun _=>pure r) Q E s₁:=
  fun ht=>af (eV ht (fun r bM hr=>af (dB (wpAny_point (aE hr)))) fun _ _ x=>x)
 haveI marked (mk:Value):wpAny (model PG w) A (callMarked mk f (first++a.pos) a.kw) Q E s₁:=by unfold callMarked;exact Calls.wpAny_keep iL
 cases k<;>dsimp only<;>first
  |exact tail iL
  |exact tail (wpAny_operating iL)
  |(split<;>first|exact tail iL|exact tail (marked _))
end
section
variable{w:bz}{A:aG}{s:aB}{E:Value→aB→Prop}{f:Value}{args:List (Bool×Sem Value)}{Q:Args→aB→Prop}
theorem iW(hp:args.any (·.1)=false)(h:wpAny (model PG w) A (spliced args) (fun vs s'=>Q ⟨vs,[]⟩ s') E s):wpAny (model PG w) A (evalArgs f true args []) Q E s:=by
 cases args with
 |nil=>
  unfold evalArgs;show wpAny _ A (spliced []>>=_) Q E s;refine af (eV h (fun vs s' h'=>?_) fun _ _ x=>x);refine dB ?_;exact af (aE (af (aE (aE h'))))
 |cons x rest=>
  obtain⟨b,t⟩:=x;cases b with
  |true=>simp at hp
  |false=>exact evalArgs_plain h
end
structure bJ(C:Cx)(A:aG)(env:Env)(outer:List Env):Prop where
 fs:C.fr=env::outer
 frames:A.frames=some C.fr
 fr:env.frame=some C.L
 kind:env.scope.kind≠.module
 outs:bh (fun(e:Env) (p:ah×(Str→Option Value))=>e.frame=some p.1∧e.scope.kind≠.module) outer C.m.fs
 nd:(C.L::C.m.fs.map (·.1)).Nodup
structure Kc(n:Nat)(C:Cx)(A:aG):Prop where
 B:qS C.w C.g
 hh:A.handled=none
 dep:A.depth+10*n+10<recursionLimit
 un:A.units+100*n+50<cLine
 fr:∃env outer,bJ C A env outer
theorem Kc.b(K:Kc n C A):Kb C A:=⟨K.B,by haveI:=K.un;lia⟩
def Smc(C:Cx)(A:aG)(ρ:List ah)(H:Hp)(a:AV)(H':Hp)(c:Code):Prop:=
 ∀s,bf C ρ H s→∀Q E,(∀aV s' b,Go ρ aV s s'→bf C aV H' s'→VR aV a b→Q b s')→codeAny (model PG C.w) A c (rB Q E) s
def Sxc(C:Cx)(A:aG)(ρ:List ah)(H:Hp)(k:Ex)(H':Hp)(c:Code):Prop:=
 ∀s,bf C ρ H s→∀Q E,(∀aV s' e,Go ρ aV s s'→yy C aV k H' e s'→E (.ref e) s')→codeAny (model PG C.w) A c (rB Q E) s
theorem Smc.call(h:Smc C A ρ H a H' (.call f ⟨as,[]⟩)):Sm C A ρ VR H a H' (PySem.call f as):=fun s n _ _ q=>kq (h s n _ _ q)
theorem Sxc.call(h:Sxc C A ρ H k H' (.call f ⟨as,[]⟩)):Sx C A ρ H k H' (PySem.call f as):=fun s n _ _ q=>kq (h s n _ _ q)
structure Cf(n:Nat)(f:Fn)(as:List AV)(H:Hp)(w:AV)(H':Hp):Prop where
 go:∀{C:Cx}{A:aG}{ρ:List ah}{as':List Value},Kc n C A→iy ρ as as'→Smc C A ρ H w H' (.call (.ref (vh f)) ⟨as',[]⟩)
noncomputable instance iC8{n:Nat}{f:Fn}{as:List AV}{H:Hp}{w:AV}{H':Hp}:CoeFun (Cf n f as H w H') fun _=> ∀{C:Cx}{A:aG}{ρ:List ah}{as':List Value},Kc n C A→iy ρ as as'→Smc C A ρ H w H' (.call (.ref (vh f)) ⟨as',[]⟩):=⟨fun h=>h.go⟩
structure JL(n:Nat)(f:Fn)(as:List AV)(H:Hp)(k:Ex)(H':Hp):Prop where
 go:∀{C:Cx}{A:aG}{ρ:List ah}{as':List Value},Kc n C A→iy ρ as as'→Sxc C A ρ H k H' (.call (.ref (vh f)) ⟨as',[]⟩)
noncomputable instance iC9{n:Nat}{f:Fn}{as:List AV}{H:Hp}{k:Ex}{H':Hp}:CoeFun (JL n f as H k H') fun _=> ∀{C:Cx}{A:aG}{ρ:List ah}{as':List Value},Kc n C A→iy ρ as as'→Sxc C A ρ H k H' (.call (.ref (vh f)) ⟨as',[]⟩):=⟨fun h=>h.go⟩
noncomputable def wu:MK→Meth→Value
 |.seq,m=>.builtin ("list." ++nT m)
 |.dict,m=>.builtin ("dict." ++nT m)
 |.fn f,_=>.ref (vh f)
theorem Wt(h:bh (FR ρ) fs es)(hn:noAttr name=true):lookIn name (dictOf es n)=some none:=HJ h (Ef hn)
theorem pU(w:bz)(m:Meth)(h:pO m=true):findIn (KK w) (.type "list") (av (nT m))=some (some (.builtin ("list." ++nT m)))∧findIn (KK w) (.ref 303) (av (nT m))=some (some (.builtin ("list." ++nT m)))∧
  typeIn (KK w) (.builtin ("list." ++nT m))=some (.type "method_descriptor"):=by
 cases m<;>first|exact nf h|exact Cv h|(cases h;done)|exact⟨rfl,rfl,rfl⟩
theorem xU(w:bz)(m:Meth)(h:rS m=true):findIn (KK w) (.type "dict") (av (nT m))=some (some (.builtin ("dict." ++nT m)))∧typeIn (KK w) (.builtin ("dict." ++nT m))=some (.type "method_descriptor"):=by
 cases m<;>first|exact nf h|exact Cv h|(cases h;done)|exact⟨rfl,rfl⟩
theorem YZ(w:bz)(c:vN):∃ga,findIn (KK w) (.ref (fX c)) "__getattribute__" =some (some (.builtin ga))∧(O2 ga != "object.__getattribute__")=false∧findIn (KK w) (.ref (fX c)) "__getattr__" =some none:=by
 by_cases hc:c=.domain
 ·subst hc;exact⟨"list.__getattribute__",rfl,Fj,rfl⟩
 ·exact⟨"object.__getattribute__",by cases c<;>first|exact absurd rfl hc|rfl,by decide+kernel,by cases c<;>first|exact absurd rfl hc|rfl⟩
structure Mk(l:Nat)(m:Meth)(H:Hp)(k:MK):Prop where
 go:∀{C:Cx}{ρ:List ah}{s:aB}{a:ah}{A:aG}{pl:Sem Bool}{Q:VQ (Value×List Value)}{E:VQ Value},qS C.w C.g→bf C ρ H s→ρ[l]? =some a→Q (wu k m,[.ref a]) s→wpAny (model PG C.w) A (getMethod (.ref a) (oM m) pl) Q E s
noncomputable instance aez{l:Nat}{m:Meth}{H:Hp}{k:MK}:CoeFun (Mk l m H k) fun _=> ∀{C:Cx}{ρ:List ah}{s:aB}{a:ah}{A:aG}{pl:Sem Bool}{Q:VQ (Value×List Value)}{E:VQ Value},qS C.w C.g→bf C ρ H s→ρ[l]? =some a→Q (wu k m,[.ref a]) s→wpAny (model PG C.w) A (getMethod (.ref a) (oM m) pl) Q E s:=⟨fun h=>h.go⟩
section
variable{H:Hp}{l d:Nat}{m:Meth}{xs:List AV}{fs:List (Attr×AV)}
theorem tY(h:pO m=true∨rS m=true):oM m=av (nT m):=by cases m<;>first|rfl|(rcases h with h|h<;>cases h)
theorem Uo(hl:H[l]? =some (.list xs))(h:pO m=true):Mk l m H .seq:=⟨fun B n ha q=>n.list hl ha fun vs k ho _ _=>by
 exact aa (tY (.inl h)) (j6 (c:=.type "list") (ga:= "list.__getattribute__") (n.jl B).X ho rfl rfl Fj rfl (pU _ m h).1 (pU _ m h).2.2 (by decide+kernel) trivial q)⟩
theorem Up(hl:H[l]? =some (.dict kvs ep))(h:rS m=true):Mk l m H .dict:=⟨fun B n ha q=>n.map hl ha fun es h1 _ _ _ _=>by
 exact aa (tY (.inr h)) (j6 (c:=.type "dict") (ga:= "dict.__getattribute__") (n.jl B).X h1 rfl rfl (by decide+kernel) rfl (xU _ m h).1 (xU _ m h).2 (by decide+kernel) trivial q)⟩
theorem Y0(hl:H[l]? =some (.dom xs d))(hd:H[d]? =some (.attrs fs))(h:(pO m&&noAttr (oM m))=true):Mk l m H .seq:=⟨fun B n ha q=>n.inst (.inr ⟨rfl,xs,hl⟩) hd ha fun dx es k ox _ D=>by
 haveI h:=qi.mp h;haveI hn:=h.2;rw[tY (.inl h.1)]at hn ⊢;exact j6 (c:=.ref 303) (ga:= "list.__getattribute__") (n.jl B).X D.inst.at_ D.inst.cls rfl Fj rfl (pU _ m h.1).2.1 (pU _ m h.1).2.2 (by decide+kernel) (by exact aa D.dict ⟨_,D.at_,Wt D.rel hn⟩) q⟩
def Has(c:vN)(m:Meth)(f:Fn):Prop:=∀w,findIn (KK w) (.ref (fX c)) (oM m)=some (some (.ref (vh f)))
theorem M3(o:Ob H l d c)(hd:H[d]? =some (.attrs fs))(hf:Has c m f)(hn:noAttr (oM m)=true):Mk l m H (.fn f):=⟨fun B n ha q=>n.inst o hd ha fun dx es k ox _ D=>by
 obtain⟨ga,g1,g2,g3⟩:=YZ _ c;exact j6 (c:=.ref (fX c)) (ga:=ga) (n.jl B).X D.inst.at_ D.inst.cls g1 g2 g3 (hf _) (vA _ f) (by decide+kernel) (by exact aa D.dict ⟨_,D.at_,Wt D.rel hn⟩) q⟩
end
section
variable{C:Cx}{A:aG}{ρ:List ah}{H H1 H2 H3:Hp}{env:Env}
theorem Bv(X:(KK w).In h)(f:Fn):∃k,eX (model PG w) h (keeperOf (.ref (vh f))) k:=(looks_keep (M:=model PG w) (Un w f) X).elim fun k h=>⟨k,h.2⟩
theorem xV(X:(KK w).In h)(k:MK)(m:Meth):∃q,eX (model PG w) h (keeperOf (wu k m)) q:=by
 cases k
 ·exact⟨_,kQ rfl⟩
 ·exact⟨_,kQ rfl⟩
 ·exact Bv X _
structure Mc(n:Nat)(k:MK)(l:Nat)(m:Meth)(vs:List AV)(H:Hp)(w:AV)(H':Hp):Prop where
 go:∀{C:Cx}{A:aG}{ρ:List ah}{a:ah}{sF:List Value},Kc n C A→ρ[l]? =some a→iy ρ vs sF→Sm C A ρ VR H w H' (call (wu k m) (.ref a::sF))
noncomputable instance aeA{n:Nat}{k:MK}{l:Nat}{m:Meth}{vs:List AV}{H:Hp}{w:AV}{H':Hp}:CoeFun (Mc n k l m vs H w H') fun _=> ∀{C:Cx}{A:aG}{ρ:List ah}{a:ah}{sF:List Value},Kc n C A→ρ[l]? =some a→iy ρ vs sF→Sm C A ρ VR H w H' (call (wu k m) (.ref a::sF)):=⟨fun h=>h.go⟩
structure Mcx(n:Nat)(k:MK)(l:Nat)(m:Meth)(vs:List AV)(H:Hp)(x:Ex)(H':Hp):Prop where
 go:∀{C:Cx}{A:aG}{ρ:List ah}{a:ah}{sF:List Value},Kc n C A→ρ[l]? =some a→iy ρ vs sF→Sx C A ρ H x H' (call (wu k m) (.ref a::sF))
noncomputable instance aeB{n:Nat}{k:MK}{l:Nat}{m:Meth}{vs:List AV}{H:Hp}{x:Ex}{H':Hp}:CoeFun (Mcx n k l m vs H x H') fun _=> ∀{C:Cx}{A:aG}{ρ:List ah}{a:ah}{sF:List Value},Kc n C A→ρ[l]? =some a→iy ρ vs sF→Sx C A ρ H x H' (call (wu k m) (.ref a::sF)):=⟨fun h=>h.go⟩
section
variable{n l r j ep:Nat}{x u v:AV}{xs ys vs:List AV}{mk:List AV→AO}{kvs:List (AV×AV)}{f:Fn}{m:Meth}{k:Ex}{w:AV}
@[elab_as_elim] theorem iy.zq {P:List Value→Prop} {vs:List Value} (h:iy ρ [] vs) (k:P []):P vs:=by cases h;exact k
@[elab_as_elim] theorem iy.one {P:List Value→Prop} {vs:List Value} (h:iy ρ [x] vs) (k:∀v,VR ρ x v→P [v]):P vs:=by cases h with|cons a b=>cases b;exact k _ a
@[elab_as_elim] theorem iy.two {P:List Value→Prop} {vs:List Value} (h:iy ρ [x,u] vs) (k:∀v w,VR ρ x v→VR ρ u w→P [v,w]):P vs:=by cases h with|cons a b=>cases b with|cons b c=>cases c;exact k _ _ a b
theorem QH(q:Sq H l xs mk)(z:(xs++[v]).length<bQ):Mc n .seq l .append [v] H .none (H.set l (mk (xs++[v]))):=⟨fun K ha h=>iy.one h fun _ hv=>Kq K.b ha q hv z⟩
theorem aaj(q:Sq H l (xs++[v]) mk):Mc n .seq l .pop [] H v (H.set l (mk xs)):=⟨fun K ha h=>iy.zq h (YM K.b ha q)⟩
theorem QI(q:Sq H l xs mk)(hr:H[r]? =some (.list ys))(z:(xs++ys).length<bQ):Mc n .seq l .extend [.loc r] H .none (H.set l (mk (xs++ys))):=⟨fun K ha h=>iy.one h fun _ hv=>VR.eF hv fun b hb=>Kr K.b ha hb q hr z⟩
theorem QJ(q:Sq H l xs mk)(f:CL H v xs j):Mc n .seq l .remove [v] H .none (H.set l (mk (xs.eraseIdx j))):=⟨fun K ha h=>iy.one h fun _ hv=>Ku K.b ha q hv f⟩
theorem Uq(q:Sq H l xs mk)(f:CL H v xs j):Mc n .seq l .index [v] H (.int j) H:=⟨fun K ha h=>iy.one h fun _ hv=>QA K.b ha q hv f⟩
theorem aak(hl:H[l]? =some (.dict kvs ep))(hk:keyOk u=true):Mc n .dict l .get [u,v] H ((dJ u kvs).getD v) H:=⟨fun K ha h=>iy.two h fun _ _ hu hv=>YY ha hl hk hu hv⟩
theorem Y3(hl:H[l]? =some (.dict kvs ep)):Mc n .dict l .copy [] H (.loc H.length) (H++[.dict kvs 0]):=⟨fun K ha h=>iy.zq h (Um ha hl)⟩
theorem m_values(hl:H[l]? =some (.dict kvs ep)):Mc n .dict l .values [] H (.loc H.length) (H++[.jB l]):=⟨fun K ha h=>iy.zq h (KP ha hl)⟩
theorem Ur(hl:H[l]? =some (.dict kvs ep)):Mc n .dict l .clear [] H .none (H.set l (.dict [] (ep+1))):=⟨fun K ha h=>iy.zq h (QG ha hl)⟩
theorem ac4(h:Cf n f (.loc l::vs) H w H1):Mc n (.fn f) l m vs H w H1:=⟨fun K ha hv=>(h K (.cons ⟨_,ha,rfl⟩ hv)).call⟩
theorem aal(h:JL n f (.loc l::vs) H k H1):Mcx n (.fn f) l m vs H k H1:=⟨fun K ha hv=>(h K (.cons ⟨_,ha,rfl⟩ hv)).call⟩
end
theorem B8(o:aQ)(name:Str)(apos pos:Pos)(xs:List aQ):PySem.eval (.Call (.Attribute o name apos) xs [] pos) env=(do
  let ov ←attributeBase o name env (PySem.eval o env)
  PySem.standAt apos.atName
  methodCall o name apos pos env ov (xs.length+0) (backTo pos (starEach xs env)) (backToKw pos (keywordEach [] env))):=rfl
noncomputable def lu(apos pos:Pos)(xs:List aQ):Bool:=apos.endLine==pos.line&&decide (xs.length<30)&&xs.all fun x=> !cX x
theorem eu:∀{xs:List aQ},(xs.all fun x=> !cX x)=true→∀pos,(backTo pos (starEach xs env)).any (·.1)=false:=by
 intro rv
 induction rv with
 |nil=>
  intro _ _;exact rfl
 |cons x xs ih=>
  intro h pos;simp only[OA,uA,zj]at h;refine aa (lH h.1) ?_;have ih:=ih h.2 pos;unfold backTo at ih ⊢;cases hx:starEach xs env with
  |nil=>rfl
  |cons y ys=>rw[hx]at ih;exact ih
theorem vB{Q E:VQ Value}(hb:baseOk ox=true)(hp:lu apos pos xs=true)
  (h:wpAny (model PG w) A (PySem.eval ox env) (fun v s1=> ∀pl:Sem Bool,wpAny (model PG w) A (getMethod v name pl) (fun r s2=>wpAny (model PG w) A (spliced (backTo pos (starEach xs env))) (fun vs s3=>(∃k,eX (model PG w) s3.heap (keeperOf r.1) k)∧wpAny (model PG w) A (call r.1 (r.2++vs)) Q E s3) E s2) E s1) E s):
  wpAny (model PG w) A (PySem.eval (.Call (.Attribute ox name apos) xs [] pos) env) Q E s:=by
 simp only[lu,uA,oZ]at hp;obtain⟨⟨S3,EX⟩,hp3⟩:=hp;haveI tS:=eu (env:=env) hp3 pos;haveI aam:methodCallForm (xs.length+0) (backTo pos (starEach xs env)) (backToKw pos (keywordEach [] env))=true:=by
  unfold methodCallForm;haveI h1:(backTo pos (starEach xs env)).all (fun x=> !x.1)=true:=by
   rw[iE];intro x hx;rw[List.any_eq_false]at tS
   simpa using tS x hx
  refine aa h1 ?_;show(true&&true&&decide (xs.length+0+0<30))=true;refine aa (bN (show xs.length+0+0<30 from EX)) ?_;rfl
 rw[B8,kW hb];refine af (eV h (fun v s1 h=>af (gz ?_)) fun _ _ x=>x);delta methodCall calleeOf methodCallPos;refine aa aam (af (dB ?_));refine aa (aF rfl) (eV (h _) (fun r s2 h=>?_) fun _ _ x=>x);dsimp only;exact aa S3 (af (aE (j7 tS (iW tS h))))
theorem Us(K:Kc n C A)(hb:baseOk ox=true)(hp:lu apos pos xs=true)(ho:Sm C A ρ VR H (.loc l) H1 (PySem.eval ox env))(z:Mk l m H1 k)
  (has:∀aV,ρ<+:aV→Sm C A aV iy H1 vs H2 (spliced (backTo pos (starEach xs env)))) (o:Mc n k l m vs H2 w H3):Sm C A ρ VR H w H3 (PySem.eval (.Call (.Attribute ox (oM m) apos) xs [] pos) env):=
 fun s n _ _ q=>vB hb hp (ho s n _ _ fun VZ s1 v g n1 hv=>VR.eF hv fun a ha pl=>z K.B n1 ha (has VZ g.p s1 n1 _ _ fun ρ2 s2 sF g2 n2 nZ=>
  ⟨xV (n2.jl K.B).X k m,o K (iu g2.p ha) nZ s2 n2 _ _ fun ρ3 s3 b g3=>q ρ3 s3 b (g.trans (g2.trans g3))⟩))
theorem Ut(K:Kc n C A)(hb:baseOk ox=true)(hp:lu apos pos xs=true)(ho:Sm C A ρ VR H (.loc l) H1 (PySem.eval ox env))(z:Mk l m H1 k)
  (has:∀aV,ρ<+:aV→Sm C A aV iy H1 vs H2 (spliced (backTo pos (starEach xs env)))) (o:Mcx n k l m vs H2 x H3):Sx C A ρ H x H3 (PySem.eval (.Call (.Attribute ox (oM m) apos) xs [] pos) env):=
 fun s n _ _ q=>vB hb hp (ho s n _ _ fun VZ s1 v g n1 hv=>VR.eF hv fun a ha pl=>z K.B n1 ha (has VZ g.p s1 n1 _ _ fun ρ2 s2 sF g2 n2 nZ=>
  ⟨xV (n2.jl K.B).X k m,o K (iu g2.p ha) nZ s2 n2 _ _ fun ρ3 s3 b g3=>q ρ3 s3 b (g.trans (g2.trans g3))⟩))
end
section
variable{w:bz}{A:aG}{s:aB}{E:Value→aB→Prop}{it a:ah}{o:Obj}{items:Array Value}{i n:Nat}
theorem next_item(hit:s.heap.IsListIter it a i)(ho:s.heap.get? a=some o)(hd:o.data=.seq items n)(hx:items[i]? =some x)
  (hQ:∀h',h'.IsListIter it a (i+1)→Heap.SameBut it s.heap h'→Q (some x) {s with heap:=h'}):wpAny (model PG w) A (pyNext (.ref it)) Q E s:=by
 refine kZ (id hit) fun oi V3 hci S4=>?_;unfold pyNext;refine af (Aw (CY (name:=av "__next__") hit.typeIs y9
  (oz y9 hit.typeIs NW ?_ (NY _))))
 show wpAny _ _ (field (.ref it) 0>>=_) _ _ s;refine af (mE V3 S4 (x:=.ref a) rfl ?_);show wpAny _ _ (if(Value.ref a==Value.none)=true then _ else _) _ _ s
 refine aa (au (show ¬((Value.ref a==Value.none)=true)from uz)) ?_;show wpAny _ _ (field (.ref it) 1>>=_) _ _ s;refine af (mE V3 S4 (x:=.int i 0) rfl ?_);show wpAny _ _ (seqItems? (.ref a)>>=_) _ _ s;refine af (FG ho hd ?_);simp only[Int.toNat_natCast,hx];refine af (FE V3 S4 (by simp) (aE ⟨x,rfl,aE (hQ _ ?_ (Heap.SameBut.update ..))⟩));exact⟨_,Heap.get?_update_self _ V3 (OD (AU S4 _)),(Obj.cls_mapFields ..).trans hci,by
  rw[AU S4];simp[rawInt]⟩
theorem next_end(hh:A.handled=none)(hit:s.heap.IsListIter it a i)(ho:s.heap.get? a=some o)(hd:o.data=.seq items n)(hx:items[i]? =none)
  (hQ:∀h',Heap.ExtBut it s.heap h'→Q none {s with heap:=h'}):wpAny (model PG w) A (pyNext (.ref it)) Q E s:=by
 refine kZ (id hit) fun oi V3 hci S4=>?_;unfold pyNext;refine af (Aw (CY (name:=av "__next__") hit.typeIs y9
  (oz y9 hit.typeIs NW ?_ (NY _))))
 show wpAny _ _ (field (.ref it) 0>>=_) _ _ s;refine af (mE V3 S4 (x:=.ref a) rfl ?_);show wpAny _ _ (if(Value.ref a==Value.none)=true then _ else _) _ _ s
 refine aa (au (show ¬((Value.ref a==Value.none)=true)from uz)) ?_;show wpAny _ _ (field (.ref it) 1>>=_) _ _ s;refine af (mE V3 S4 (x:=.int i 0) rfl ?_);show wpAny _ _ (seqItems? (.ref a)>>=_) _ _ s;refine af (FG ho hd ?_);simp only[Int.toNat_natCast,hx];refine af (oE (af (FE V3 S4 (by simp) ?_)));show wpAny _ _ (newExc (.type "StopIteration") []>>=_) _ _ _;refine af ?_;simp only[newExc,newTuple];refine af (nK ?_ (by size_fits));refine af (m:=firstArgMember _ _) (mD (a:=Value.none) (by first|rfl|(simp only[firstArgMember];rfl)) ?_);refine nK ?_ (by size_fits);dsimp only[raiseNew];refine af (FI ?_);refine aa (show A.in1.handled=none from hh) (af (aE (FO ?_)));refine af (wI (T:= "StopIteration") (b:=true) ⟨_,Heap.get?_push_size _ rfl,rfl⟩ isSubtype_stop ?_);exact aE (hQ _ (((Heap.SameBut.update ..).extBut.push _).push _))
theorem QK(X:(KK w).In s.heap)(so:bY s.heap a c d items n)(hQ:Q (.ref s.heap.objs.size) {s with heap:=s.heap.push {cls:=.type "list_iterator",data:=.fields #[.ref a,.int 0 0]}}):
  wpAny (model PG w) A (pyIter (.ref a)) Q E s:=by
 haveI e:findIn (KK w) c "__iter__" =some (some (.builtin "list.__iter__")):=mK w so.cls rfl rfl;unfold pyIter;refine af ((so.ob.special X e).here ?_);show wpAny _ _ (callSpecialIfBoundUnlessNone? (.ref a) "__iter__" _>>=_) Q E s;refine af ?_;simp only[callSpecialIfBoundUnlessNone?,bindSpecialIfBound?];refine dB (af (af ((so.ob.special X e).here ?_)));dsimp only[slot_list_iter.bind];refine af (FA (tG ?_));haveI fin:∀refuse:Sem Value,wpAny (model PG w) A (if(Value.builtin "list.__iter__" ==Value.none)=true then(refuse>>=fun v=>pure (some v))else(call (.builtin "list.__iter__") [.ref a]>>=fun v=>pure (some v)))
   (fun r s'=>r=some (.ref s.heap.objs.size)∧s'={s with heap:=s.heap.push {cls:=.type "list_iterator",data:=.fields #[.ref a,.int 0 0]}}) E s:=fun refuse=>by
  simp only[builtin_beq_none,jT,if_false];refine af ?_;refine iw (i:= "list.__iter__") (owner:= "list") (n:= "__iter__") ⟨.inl (by decide+kernel),by decide+kernel,by decide+kernel,entry_list_iter⟩ X so.ob (jq w so.cls) (args_list_iter _) ?_;show wpAny _ _ (do ret (←newFields "list_iterator" [.ref a,rawInt 0])) _ _ s
  exact af (nK (aE (aE ⟨rfl,rfl⟩)))
 have T:Gv {s with heap:=s.heap.push {cls:=.type "list_iterator",data:=.fields #[.ref a,.int 0 0]}} (.ref s.heap.objs.size) "list_iterator" :=⟨_,Heap.get?_push_size _ rfl,rfl⟩
 split
 ·refine af (aE (aE (eV (fin _) (fun r s' h=>?_) fun _ _ h=>h)));obtain⟨rfl,rfl⟩:=h;exact af (rm T y9.lookup (aE hQ))
 ·refine wpAny_tryCatch (af (aE (aE (eV (fin _) (fun r s' h=>?_) fun _ _ h=>h))));obtain⟨rfl,rfl⟩:=h;exact af (rm T y9.lookup (aE hQ))
end
section
variable{w:bz}{A:aG}{s:aB}{E:Value→aB→Prop}{it a S:ah}{items:Array Value}
def Rest(P:ah→Prop)(h h':Heap):Prop:=∀b o,¬P b→h.get? b=some o→h'.get? b=some o
theorem Eg(hh:A.handled=none)(hz:items.size<bQ)(hSI:S≠it)(S5:S≠a)(haI:a≠it):
  ∀(k i:Nat)(s:aB)(acc:Array Value)(nS:Nat),items.size -i=k→i≤items.size→acc.size≤i→s.heap.IsListIter it a i→bY s.heap a c d items n→bY s.heap S cS dS acc nS→
   (∀h' tk II,Rest (fun b=>b=S∨b=it) s.heap h'→bY h' S cS dS (acc++items.toList.drop i) II→R (.ok (.ret res)) {s with heap:=h',toks:=tk})→
   codeAny (model PG w) A (.builtin "list.extend.loop" ⟨[.ref S,.ref it,res],[]⟩) R s:=by
 intro k
 induction k with
 |zero=>
  intro i s acc nS hk hi hai hit so sS hR;obtain rfl:i=items.size:=Nat.le_antisymm hi (Nat.le_of_sub_eq_zero hk);refine oA PySem.F.entry_extend_loop ?_;refine aa (nP PySem.F.plain_extend_loop _) ?_;show wpAny _ A.in1 (pyNext (.ref it)>>=_) _ _ s;refine af (next_end (A:=A.in1) hh hit so.at_ rfl (by simp) fun h' he=>?_);refine aE (hR h' s.toks nS (fun b o hb e=>he b o (fun q=>hb (.inr q)) e) ⟨?_,sS.cls⟩);haveI:=he S _ hSI sS.at_;haveI e0:items.toList.drop items.size=[]:=List.drop_of_length_le (by simp)
  (refine aa this ?_;refine aa e0 ?_);simp
 |succ k ih=>
  intro i s acc nS hk hi hai hit so sS hR;haveI kJ:i<items.size:=Nat.lt_of_sub_eq_succ hk;refine oA PySem.F.entry_extend_loop ?_;refine aa (nP PySem.F.plain_extend_loop _) ?_;show wpAny _ A.in1 (pyNext (.ref it)>>=_) _ _ s;refine af (next_item (A:=A.in1) hit so.at_ rfl (x:=items[i]) (by simp[kJ]) fun h' Aj hs=>?_);haveI V4:bY h' S cS dS acc nS:=⟨(hs.2 S hSI).trans sS.at_,sS.cls⟩;haveI so':bY h' a c d items n:=⟨(hs.2 a haI).trans so.at_,so.cls⟩;refine af (cY (s:={s with heap:=h'}) V4 (Nat.lt_of_le_of_lt hai (Nat.lt_trans kJ hz)) (by rw[Array.size_push];exact Nat.lt_of_le_of_lt hai (Nat.lt_trans kJ hz)) ?_);refine eY (fu (c:=cS) (d:=dS) (vs:=acc) (n:=nS) (·.push items[i])) fun II e1=>?_;haveI ac5:bY (h'.update S (bK (·.push items[i]))) S cS dS (acc.push items[i]) II:=⟨by refine ez e1 ?_;exact Heap.get?_update_self _ V4.at_ (by refine aa e1 ?_;rfl),sS.cls⟩;haveI ac6:bY (h'.update S (bK (·.push items[i]))) a c d items n:=⟨(Heap.get?_update_other _ _ S5).trans so'.at_,so.cls⟩;refine kZ (Aj) fun oi g1 g2 g3=>?_;haveI aan:(h'.update S (bK (·.push items[i]))).IsListIter it a (i+1):=⟨oi,(Heap.get?_update_other _ _ hSI).trans g1,g2,g3⟩;refine aE ⟨kj PySem.F.plain_extend_loop _,ih (i+1) _ _ II (aR Nat.pred hk) kJ (by rw[Array.size_push];exact Nat.succ_le_succ hai) aan ac6 ac5 fun qV tk dX hr bM=>?_⟩;refine hR qV tk dX (fun b o hb e=>hr b o hb ?_) ?_
  ·exact(Heap.get?_update_other _ _ (dg fun q=>hb (.inl q))).trans ((hs.2 b fun q=>hb (.inr q)).trans e)
  ·haveI e2:(acc.push items[i]++items.toList.drop (i+1))=(acc++items.toList.drop i):=by
    haveI:items.toList.drop i=items[i]::items.toList.drop (i+1):=by simp[AG,kJ]
    refine aa this ?_;apply Array.toList_inj.mp;simp
   rw[e2]at bM;exact bM
theorem xW(hh:A.handled=none)(X:(KK w).In s.heap)(hz:items.size<bQ)(S5:S≠a)(so:bY s.heap a (.ref 303) d items n)(sS:bY s.heap S cS dS #[] nS)
  (hR:∀h' tk II,Rest (fun b=>b=S) s.heap h'→bY h' S cS dS items II→R (.ok (.ret res)) {s with heap:=h',toks:=tk}):
  wpAny (model PG w) A.in1 (Builtin.List.listExtendWith (.ref S) (.ref a) res) (uV w A R) (fun e s'=>R (.error e) s') s:=by
 unfold Builtin.List.listExtendWith;refine af (so.ob.type.here ?_);have h1:(Builtin.List.listSameRef (.ref S) (.ref a)||Value.ref 303==Value.type "list" ||Value.ref 303==Value.type "tuple")=false:=by
  simp only[Builtin.List.listSameRef,beq_eq_false_iff_ne.mpr S5,OJ];rfl
 refine aa h1 ?_;dsimp only[jT,if_false];refine af (QK X so ?_);have kJ:S<s.heap.objs.size:=Heap.lt_size sS.at_;haveI ac7:a<s.heap.objs.size:=Heap.lt_size so.at_;have key:∀(h:Heap)(tk II:Nat),Rest (fun b=>b=S∨b=s.heap.objs.size) s.heap h→h.IsListIter s.heap.objs.size a 0→bY h a (.ref 303) d items n→bY h S cS dS #[] II→
   codeAny (model PG w) A (.builtin "list.extend.loop" ⟨[.ref S,.ref s.heap.objs.size,res],[]⟩) R {s with heap:=h,toks:=tk}:=fun h tk II hr hit so' V4=>by
  refine Eg hh hz (Nat.ne_of_lt kJ) S5 (Nat.ne_of_lt ac7) _ 0 _ _ _ rfl (Nat.zero_le _) (by simp) hit so' V4 fun h' um n' JM s'=>?_;refine hR h' um n' (fun b o hb e=>JM b o ?_ (hr b o ?_ e)) (by simpa using s')
  ·rintro (q|q)
   ·exact hb q
   ·exact absurd (Heap.lt_size e) (by refine aa q ?_;exact Nat.lt_irrefl _)
  ·rintro (q|q)
   ·exact hb q
   ·exact absurd (Heap.lt_size e) (by refine aa q ?_;exact Nat.lt_irrefl _)
 have zu:bY (s.heap.push {cls:=.type "list_iterator",data:=.fields #[.ref a,.int 0 0]}) a (.ref 303) d items n:=⟨Heap.get?_push_of_some _ so.at_,so.cls⟩;have M4:bY (s.heap.push {cls:=.type "list_iterator",data:=.fields #[.ref a,.int 0 0]}) S cS dS #[] nS:=⟨Heap.get?_push_of_some _ sS.at_,sS.cls⟩;have PN:(s.heap.push {cls:=.type "list_iterator",data:=.fields #[.ref a,.int 0 0]}).IsListIter s.heap.objs.size a 0:=⟨_,Heap.get?_push_size _ rfl,rfl,rfl⟩;have XT:(KK w).In (s.heap.push {cls:=.type "list_iterator",data:=.fields #[.ref a,.int 0 0]}):=X.keeps fun _ _ e=>Heap.get?_push_of_some _ e;haveI aao:Rest (fun b=>b=S∨b=s.heap.objs.size) s.heap (s.heap.push {cls:=.type "list_iterator",data:=.fields #[.ref a,.int 0 0]}):=fun b o _ e=>Heap.get?_push_of_some _ e;refine af (dB ?_);haveI hint:∀(Q:Bool→aB→Prop),(∀b tk,Q b {s with heap:=s.heap.push {cls:=.type "list_iterator",data:=.fields #[.ref a,.int 0 0]},toks:=tk})→
   wpAny (model PG w) A.in1 (Builtin.List.listLengthHint (.ref a)) Q (fun e s'=>R (.error e) s') {s with heap:=s.heap.push {cls:=.type "list_iterator",data:=.fields #[.ref a,.int 0 0]}}:=fun Q hQ=>by
  unfold Builtin.List.listLengthHint;refine af ((zu.ob.special XT (name:= "__len__") (r:=some (.builtin "list.__len__")) rfl).here ?_);generalize eN:("list.__len__" :String)=id0
  wp_delta
  refine aa (show splitId id0=some ("list", "__len__")from by subst eN;decide+kernel) ?_;subst eN;refine af ((zu.ob.inst XT (base:=.type "list") (b:=true) rfl).here ?_);refine As (fun Xc=>absurd Xc (by decide)) (fun _=>?_);refine As (fun _=>?_) (fun Xc=>absurd (by decide+kernel) Xc);refine af (zu.ob.type.here ?_);dsimp only;refine af (zl kind_len plain_len entry_len (args_len1 _) (nI XT zu hz fun t tk=>?_));exact aE (hQ _ tk)
 refine hint _ fun b tk=>?_;refine As (fun _=>?_) (fun _=>aE ⟨kj PySem.F.plain_extend_loop _,key _ tk nS aao PN zu M4⟩);refine af (oE ?_);refine af ?_;unfold Builtin.List.listTouch;refine af (cY (s:={s with heap:=s.heap.push {cls:=.type "list_iterator",data:=.fields #[.ref a,.int 0 0]},toks:=tk}) M4 (by decide) (by decide) ?_);refine eY (fu (c:=cS) (d:=dS) (vs:= #[]) (n:=nS) (·.push Value.none)) fun n1 e1=>?_;have mJ:=(⟨by refine ez e1 ?_;exact Heap.get?_update_self _ M4.at_ (by refine aa e1 ?_;rfl),sS.cls⟩:bY ((s.heap.push {cls:=.type "list_iterator",data:=.fields #[.ref a,.int 0 0]}).update S (bK (·.push Value.none))) S cS dS _ n1);refine cY (s:={s with heap:=(s.heap.push {cls:=.type "list_iterator",data:=.fields #[.ref a,.int 0 0]}).update S (bK (·.push Value.none)),toks:=tk}) mJ (by decide) (by decide) ?_;refine eY (fu (c:=cS) (d:=dS) (vs:=(#[]:Array Value).push Value.none) (n:=n1) (·.pop)) fun n2 e2=>?_;have I1:=(⟨by refine ez e2 ?_;exact Heap.get?_update_self _ mJ.at_ (by refine aa e2 ?_;rfl),sS.cls⟩:bY (((s.heap.push {cls:=.type "list_iterator",data:=.fields #[.ref a,.int 0 0]}).update S (bK (·.push Value.none))).update S (bK (·.pop))) S cS dS _ n2);have yX:∀b o,b≠S→(s.heap.push {cls:=.type "list_iterator",data:=.fields #[.ref a,.int 0 0]}).get? b=some o→(((s.heap.push {cls:=.type "list_iterator",data:=.fields #[.ref a,.int 0 0]}).update S (bK (·.push Value.none))).update S (bK (·.pop))).get? b=some o:=
  fun b o hb e=>(Heap.get?_update_other _ _ (dg hb)).trans ((Heap.get?_update_other _ _ (dg hb)).trans e)
 refine kZ (PN) fun oi g1 g2 g3=>?_;refine aE ⟨kj PySem.F.plain_extend_loop _,key _ tk n2 (fun b o hb e=>yX b o (fun q=>hb (.inl q)) (Heap.get?_push_of_some _ e)) ⟨oi,yX _ _ (dg (Nat.ne_of_lt kJ)) g1,g2,g3⟩ ⟨yX _ _ (dg S5) zu.at_,so.cls⟩ ?_⟩
 simpa using I1
end
section
variable{w:bz}{A:aG}{s:aB}{E:Value→aB→Prop}
def Ak(w:bz)(s:aB)(v c:Value)(b:Bool):Prop:=
 ∀(A:aG)(E:Value→aB→Prop)(Q:Fin→aB→Prop)(dep:Int)(tk wz:Tok),(∀um,Q (.done (.ret (.bool b))) {s with toks:=um})→wpAny (model PG w) A (Builtin.«isinstance.nested» ⟨[v,c,.int dep tk],[]⟩) Q E {s with toks:=wz}
theorem Dm(T:String)(lU:(Value.type "int" ==Value.type T)=false)(hty:typeOf (.type T)=pure (.type "type"))(XU:isSubtype (.type "int") (.type T)=pure false):Ak w s (.int n u) (.type T) false:=
 fun A E Q dep tk wz h=>by
  obtain⟨hp,g,d,t,os⟩:=s;exact isinstance_nested_false_int lU hty XU (h _)
theorem zJ(hx:s.TypeIs v Tx)(hty:typeOf (.type T)=pure (.type "type"))(XU:isSubtype (.type Tx) (.type T)=pure true):Ak w s v (.type T) true:=
 fun A E Q dep tk wz h=>isinstance_nested_true rfl (show Gv {s with toks:=wz} v Tx by cases v<;>exact hx) hty XU (h _)
theorem HR(ho:s.heap.get? a=some o)(hc:o.cls=.type "tuple"):Ak w s (.ref a) (.type "list") false:=
 fun A E Q dep tk wz h=>by
  obtain⟨hp,g,d,t,os⟩:=s;exact isinstance_nested_false_tuple ho hc (by decide) (by kernel_rfl) (by rw[qx];kernel_rfl) (h _)
theorem ty_list:typeOf (.type "list")=pure (.type "type"):=by kernel_rfl
theorem QL(X:(KK w).In s.heap)(x:vj s.heap a (.ref 303)):Ak w s (.ref a) (.type "list") true:=
 fun A E Q dep tk wz h=>by
  obtain⟨hp,g,d,t,os⟩:=s;haveI L0:=x.type (M:=model PG w);haveI L1:=x.inst (M:=model PG w) X (base:=.type "list") (b:=true) rfl;delta Builtin.«isinstance.nested»;refine af (L0.at ?_);refine aa (au (show ¬((Value.ref 303==Value.type "list")=true) by decide)) (af (mD ty_list ?_));refine aa (aF (by decide)) ?_
  k_delta "plainIsInstance"
  delta isType;refine af (af (af (aE ?_)));refine aE ?_;dsimp only[Ge,jT,if_false];refine af (L1.at ?_);dsimp only[if_true];exact aE (aE (h _))
theorem zK(S:Ak w s v c b)(h:∀um,Q (.bool b) {s with toks:=um}):
  wpAny (model PG w) A (call (.builtin "isinstance.nested") [v,c,.int dep tk]) Q E {s with toks:=wz}:=
 zl PySem.F.kind_isinstance_nested PySem.F.plain_isinstance_nested PySem.F.entry_isinstance_nested (PySem.F.args_isinstance_nested_3 _ _ _) (S _ _ _ _ _ _ fun um=>⟨_,rfl,h um⟩)
theorem Uu(hk:builtinKind i=none)(hp:plainId i=true)(hb:entryFor table i=some b)(ha:argsOk i ⟨args,[]⟩)
  (h:wpAny (model PG w) A.in1 (b ⟨args,[]⟩) (uV w A (rB Q E)) (fun e s'=>rB Q E (.error e) s') s):wpAny (model PG w) A (call (.builtin i) args) Q E s:=by
 refine kq (wH hp hb ?_);simp only[checkBuiltinCall,hk];cases XQ:O1 i with
 |none=>exact aE h
 |some sig=>
  simp only[argsOk,XQ]at ha;haveI h2:A0 i sig ⟨args,[]⟩=pure ():=ha;show wpAny _ A.in1 (A0 i sig ⟨args,[]⟩) _ _ s;exact aa h2 (aE h)
theorem KQ(CM:Bool)(ht:∀M:k7,eX M s.heap (typeOf v) t)(lU:(t==.ref tp)=false)(hl:v≠.builtin "__main__.__loader__#opaque")(V5:s.heap.get? tp=some ⟨.type "tuple",none,.seq #[.type "list",.type "tuple"] n, #[]⟩)
  (ac8:Ak w s v (.type "list") sX) (ac9:sX=false→Ak w s v (.type "tuple") CM) (h:∀um,Q (.bool (sX||CM)) {s with toks:=um}):wpAny (model PG w) A (call (.builtin "isinstance") [v,.ref tp]) Q E s:=by
 refine Uu PySem.F.kind_isinstance PySem.F.plain_isinstance PySem.F.entry_isinstance (PySem.F.args_isinstance_2 _ _) (isinstance_outer ?_ hl);haveI hT:Gv s (.ref tp) "tuple" :=⟨_,V5,rfl⟩;delta Builtin.«isinstance.nested»;refine af ((ht (model PG w)).here ?_);refine aa (au (by rw[lU];decide)) ?_;refine af (wM hT ?_);refine aa (au (by decide)) ?_;delta Builtin.Builtins.unionMembers;refine af (af (wM hT ?_));refine aa (au (by decide)) (aE ?_);refine af (wI hT PySem.F.isi_sub_tuple ?_);refine aa (aF rfl) ?_;dsimp only;refine aa (au (by decide)) (af (FG V5 rfl ?_));refine af (wpAny_arrayLoop ?_);dsimp only[Option.getD_some];rw[tL];refine af (af (zK (s:=s) ac8 fun um=>?_));refine af (s7 ?_);cases sX with
 |true=>
  refine aa (aF rfl) (af (aE (aE ?_)));exact aE (aE (h um))
 |false=>
  refine aa (au (by decide)) (aE ?_);dsimp only;rw[tL];refine af (af (zK (s:=s) (ac9 rfl) fun abW=>?_));refine af (s7 ?_);cases CM with
  |true=>
   refine aa (aF rfl) (af (aE (aE ?_)));exact aE (aE (h abW))
  |false=>
   refine aa (au (by decide)) (aE ?_);dsimp only;exact aa List.forIn_nil (aE (aE (h abW)))
end
structure Kx(n:Nat)(C:Cx)(A:aG):Prop extends Kc n C A where
 XW:A.depth+3+10*n+10<recursionLimit
 un9:A.units+9+100*n+50<cLine
structure Cl(n:Nat)(f:AV)(vs:List AV)(H:Hp)(w:AV)(H':Hp):Prop where
 keep:∀{C:Cx}{ρ:List ah}{s:aB}{fv:Value},qS C.w C.g→bf C ρ H s→VR ρ f fv→∃k,eX (model PG C.w) s.heap (keeperOf fv) k
 go:∀{C:Cx}{A:aG}{ρ:List ah}{fv:Value}{sF:List Value},Kx n C A→VR ρ f fv→iy ρ vs sF→Sm C A ρ VR H w H' (call fv sF)
noncomputable def ada:Gl→Bool
 |.cls _=>false|.fn _=>false|.unassigned=>false
 |_=>true
theorem Cl.blt(hg:ada g=true)(h:∀{C:Cx} {A:aG} {ρ:List ah} {sF:List Value},Kx n C A→iy ρ vs sF→Sm C A ρ VR H w H' (call (W7 g) sF)):Cl n (.glob g) vs H w H':=
 ⟨fun _ _ e=>VR.qR e (by cases g<;>first|exact⟨_,kQ rfl⟩|cases hg),fun K e hv=>VR.qR e (h K hv)⟩
section
variable{n:Nat}{C:Cx}{A:aG}{ρ:List ah}{H:Hp}{s:aB}{l d:Nat}{xs:List AV}{i j:Int}{v:AV}
theorem rC(h:Ln v H i):Cl n (.glob .len) [v] H (.int i) H:=.blt rfl fun K hv=>iy.one hv fun _ x=>h K.b x
theorem Y4(h:abU x):Cl n (.glob .repr) [.str x] H (.CB false) H:=.blt rfl fun K hv=>iy.one hv fun _ x=>Uh h K.b x
theorem Uv(w:bz)(k c:vN)(h:GL k c=true):isIn (KK w) (.ref (fX k)) (fX c)=true:=by
 cases k<;>cases c<;>first|exact nf h|exact Cv h|(cases h;done)|rfl
theorem Y5:Cl n (.glob .isinstance) [.int i,.glob (.cls .constraint)] H (.bool false) H:=.blt rfl fun K hv=>iy.two hv fun _ _ x y=>VR.gX x fun t=>VR.qR y fun s n _ _ h=>
 isn_call (K:=KK _) (T:= "int") (P:=fun _=>True) (n.jl K.B).X (fun M=>kQ rfl) rfl (fun h=>nomatch h) trivial int_cls (h _ _ _ (.toks _ s _ _) (n.toks _) rfl)
theorem Y7(hl:H[l]? =some (.inst k d))(hs:GL k c=true):Cl n (.glob .isinstance) [.loc l,.glob (.cls c)] H (.bool true) H:=.blt rfl fun{C A ρ _} K hv=>iy.two hv fun _ _ x y=>VR.eF x fun a ha=>VR.qR y fun s n _ _ h=>by
 obtain⟨ob,ho,sm,dx,IE,rfl⟩:=n.at hl ha;exact isi_call (K:=KK C.w) (t:=.ref (fX k)) (n.jl K.B).X (fun M=>(ng ho).andThen .now) (Uv C.w k c hs) (fun h=>nomatch h) (h ρ s _ (.refl ρ s) n rfl)
theorem bf.pair(n:bf C ρ H s){lt:Nat}(hl:H[lt]? =some (.tuple [.glob .list,.glob .tuple]))(V5:ρ[lt]? =some tp):∃k,s.heap.get? tp=some ⟨.type "tuple",none,.seq #[.type "list",.type "tuple"] k, #[]⟩:=by
 refine n.tup hl V5 fun vs k ho _ hv=>⟨k,ho.trans ?_⟩;haveI:vs.toList=[.type "list",.type "tuple"]:=by
  generalize vs.toList=ws at hv;cases hv with|cons h1 hv=>cases hv with|cons h2 hv=>cases hv;(refine aa (show _=_ from h1) (aa (show _=_ from h2) ?_));rfl
 haveI:vs= #[.type "list",.type "tuple"]:=Array.toList_inj.mp this
 (refine aa this ?_;with_reducible rfl)
theorem vC{lt:Nat}(hl:H[lt]? =some (.tuple [.glob .list,.glob .tuple]))
  (h:∀{C:Cx}{ρ:List ah}{s:aB}{v:Value},Kb C A→bf C ρ H s→VR ρ x v→∃t sX CM,b=(sX||CM)∧(∀M:k7,eX M s.heap (typeOf v) t)∧(∀tp,SE tp→(t==.ref tp)=false)∧v≠.builtin "__main__.__loader__#opaque" ∧Ak C.w s v (.type "list") sX∧(sX=false→Ak C.w s v (.type "tuple") CM)):
  ∀{C:Cx}{ρ:List ah}{sF:List Value},Kb C A→iy ρ [x,.loc lt] sF→Sm C A ρ VR H (.bool b) H (call (W7 .isinstance) sF):=fun{C ρ _} K hv=>iy.two hv fun v _ x y=>VR.eF y fun tp V5 s n _ _ q=>by
 refine eY (n.pair hl V5) fun k ho=>?_;refine acZ (h K n x) fun t sX CM e_3 h1 h2 h3 h4 h5=>?_;subst e_3;haveI hi:SE tp:=by
  cases n with|mk N S D _=>exact(D.lt V5).elim fun o ho=>(D.ob lt o ho).elim fun b h=>h.elim fun ob h=>S.low (tp,ob) (kP (V5.symm.trans h.1)▸h.2.1)
 exact KQ (w:=C.w) CM h1 (h2 tp hi) h3 ho h4 h5 fun um=>q ρ _ _ (.toks ρ s _ _) (n.toks _) rfl
theorem M5(T:String)(tp:ah)(_:SE tp):(Value.type T==.ref tp)=false:=by simp
theorem Y8(hl:H[lt]? =some (.tuple [.glob .list,.glob .tuple])):Cl n (.glob .isinstance) [.int i,.loc lt] H (.bool false) H:=.blt rfl fun K hv=>vC hl (fun K n x=>VR.gX x fun t=>⟨.type "int",false,false,rfl,fun M=>kQ rfl,M5 _,(fun h=>nomatch h),
 Dm "list" (by decide) (by kernel_rfl) (by rw[qx];kernel_rfl),fun _=>Dm "tuple" (by decide) (by kernel_rfl) (by rw[qx];kernel_rfl)⟩) K.b hv
theorem Uw(hl:H[lt]? =some (.tuple [.glob .list,.glob .tuple]))(h:H[l]? =some (.list xs)):Cl n (.glob .isinstance) [.loc l,.loc lt] H (.bool true) H:=.blt rfl fun K hv=>vC hl (fun K n x=>VR.eF x fun a ha=>n.list h ha fun vs k ho _ _=>⟨.type "list",true,false,rfl,fun M=>(ng ho).andThen .now,M5 _,(fun h=>nomatch h),
 zJ (Tx:= "list") ⟨_,ho,rfl⟩ (by kernel_rfl) (by rw[qx];kernel_rfl),(fun h=>nt h)⟩) K.b hv
theorem Y9(hl:H[lt]? =some (.tuple [.glob .list,.glob .tuple]))(h:H[l]? =some (.tuple xs)):Cl n (.glob .isinstance) [.loc l,.loc lt] H (.bool true) H:=.blt rfl fun K hv=>vC hl (fun K n x=>VR.eF x fun a ha=>n.tup h ha fun vs k ho _ _=>⟨.type "tuple",false,true,rfl,fun M=>(ng ho).andThen .now,M5 _,(fun h=>nomatch h),
 HR ho rfl,fun _=>zJ (Tx:= "tuple") ⟨_,ho,rfl⟩ (by kernel_rfl) (by rw[qx];kernel_rfl)⟩) K.b hv
theorem Za(hl:H[lt]? =some (.tuple [.glob .list,.glob .tuple]))(h:H[l]? =some (.dom xs d)):Cl n (.glob .isinstance) [.loc l,.loc lt] H (.bool true) H:=.blt rfl fun K hv=>vC hl (fun K n x=>VR.eF x fun a ha=>n.dom h ha fun vs k dx _ so _ _=>
 ⟨.ref 303,true,false,rfl,fun M=>so.ob.type,fun tp h=>beq_eq_false_iff_ne.mpr fun e=>h.2 (Value.ref.inj e).symm,(fun h=>nomatch h),QL (n.jl K.B).X so.ob,(fun h=>nt h)⟩) K.b hv
theorem yg:entryFor table "callable" =some Builtin.«callable» :=entryFor_of_tree (by kernel_rfl)
theorem HS:Cl n (.glob .callable) [.int i] H (.bool false) H:=.blt rfl fun K hv=>iy.one hv fun _ x=>VR.gX x fun t s n _ _ h=>
 zl (id:= "callable") (by decide+kernel) (by decide+kernel) yg (by unfold argsOk;kernel_rfl) (by
  unfold Builtin.«callable»;refine af (m:=oneArg "callable" _) (aE ?_);refine af (rm (T:= "int") (typeIs_int s _ t) (by rw[typeLookup_type,builtinLookup_eq_fast];kernel_rfl:typeLookup (.type "int") "__call__" =pure none) ?_);exact aE ⟨_,rfl,h _ s _ (.refl _ s) n rfl⟩)
theorem QM(sm:small (.pX 0 i)):Cl n (.glob .range) [.int i] H (.loc H.length) (H++[.pX 0 i]):=.blt rfl fun K hv=>iy.one hv fun _ x=>VR.gX x fun t s n _ _ h=>
 call_range_1 (h (_++[_]) _ _ ⟨fJ ..,rfl,Nat.le_refl _⟩ (n.push rfl rfl ⟨sm,_,_,_,rfl⟩) n.vr)
theorem QN(sm:small (.pX i j)):Cl n (.glob .range) [.int i,.int j] H (.loc H.length) (H++[.pX i j]):=.blt rfl fun K hv=>iy.two hv fun _ _ x y=>VR.gX x fun t=>VR.gX y fun t' s n _ _ h=>
 call_range_2 (h (_++[_]) _ _ ⟨fJ ..,rfl,Nat.le_refl _⟩ (n.push rfl rfl ⟨sm,_,_,_,rfl⟩) n.vr)
end
section
variable{C:Cx}{A:aG}{ρ:List ah}{H:Hp}{s s':aB}
theorem bf.made(n:bf C ρ H s)(k:∀b o,s.heap.get? b=some o→s'.heap.get? b=some o)(hD:s'.heap.get? s.heap.objs.size=some ob)(hg:s'.gens=s.gens)(hR:OR C.w ρ o ob):
  bf C (ρ++[s.heap.objs.size]) (H++[o]) s':=by
 obtain⟨N,S,D,b⟩:=n;exact⟨_,⟨S.fr.keeps k,news_pushed S.fr S.nw k hD rfl,by rw[gC,dO];exact⟨S.iG,S.nd⟩,S.big,rT S.size S.low,S.fs.grow (fun b o e _ _ _=>k b o e) fun p hp=>by
   rcases bw.mp hp with rfl|hp
   ·exact .inr (.inr (Nat.le_refl _))
   ·exact .inl hp⟩,D.push hR S.iG,hg▸b⟩
theorem bf.Ux(n:bf C ρ H s)(hl:ρ[l]? =some a)(hs:Rest (fun b=>b=a) s.heap s'.heap)(e:s'.heap.get? a=some ob)(hR:OR C.w ρ o ob)(hg:s'.gens=s.gens):bf C ρ (H.set l o) s':=by
 obtain⟨N,S,D,b⟩:=n;refine eY (D.lt hl) fun XN h₀=>?_;refine jZ (D.ob l XN h₀) fun b' jJ e1 e2 e3=>?_;rw[hl]at e1;cases e1;haveI DD:=S.nw _ e2;refine⟨putN a ob N,⟨⟨?_,fun b x q=>hs b x (fun z=>?_) (S.fr.keep b x q),S.fr.above⟩,fun p hp=>?_,by rw[gP];exact S.nd,S.big,vt S.low,
  S.fs.grow (fun b o q hb _ _=>hs b o (fun z=>hb _ e2 z.symm) q) fun p hp=>.inr (.inl (gP a ob N▸dF (f:=je) hp))⟩,D.set hl hR,hg▸b⟩
 ·refine CJ (S.fr.ns) fun oL es ep q1 q2=>?_;exact⟨oL,es,ep,hs _ _ (dg DD.2.1) q1,q2⟩
 ·haveI:=DD.2.2;rw[←z]at this;rw[this]at q;cases q
 ·obtain⟨b,x⟩:=p;rcases iH hp with⟨rfl,rfl⟩|⟨hb,hp⟩
  ·exact⟨e,DD.2⟩
  ·haveI P:=S.nw _ hp;exact⟨hs b x hb P.1,P.2⟩
theorem QO{E:Value→aB→Prop}{Q:Value→aB→Prop}(hh:A.handled=none)(X:(KK w).In s.heap)(hz:items.size<bQ)(so:bY s.heap a (.ref 303) d items n)
  (hQ:∀h' c' tk,(∀b o',s.heap.get? b=some o'→h'.get? b=some o')→h'.get? s.heap.objs.size=some ⟨.type "list",none,.seq items c', #[]⟩→Q (.ref s.heap.objs.size) {s with heap:=h',toks:=tk}):
  wpAny (model PG w) A (call (.type "list") [.ref a]) Q E s:=by
 haveI lU:a≠s.heap.objs.size:=fun e=>Nat.lt_irrefl _ (e▸Heap.lt_size so.at_);refine callType_codes (Q₁:=fun obj s₁=>obj=.ref s.heap.objs.size∧s₁={s with heap:=s.heap.push {cls:=.type "list",data:=.seq #[]}}) F.called_list (F.typeCall_list_1 _) F.entry_list_init
  (code_list_new _ ⟨rfl,rfl⟩) fun obj s₁ iL=>?_
 refine iK (iL) fun MC JK=>?_;subst MC;subst JK;haveI hS:(s.heap.push {cls:=.type "list",data:=.seq #[]}).get? s.heap.objs.size=some {cls:=.type "list",data:=.seq #[]}:=Heap.get?_push_size _ rfl;refine⟨⟨_,hS,rfl⟩,F.args_list_init_2 _ _,?_⟩;show wpAny _ _ (do let old ←Builtin.List.listItems (.ref s.heap.objs.size);Builtin.List.listUpdate (.ref s.heap.objs.size) (fun _=> #[]);letGo old.toList.reverse;Builtin.List.listExtendWith (.ref s.heap.objs.size) (.ref a) .none) _ _ _
 haveI sS:bY (s.heap.push {cls:=.type "list",data:=.seq #[]}) s.heap.objs.size (.type "list") none #[] 0:=⟨hS,.inl rfl⟩;refine af (fq (s:={s with heap:=s.heap.push {cls:=.type "list",data:=.seq #[]}}) sS ?_);refine af (cY (s:={s with heap:=s.heap.push {cls:=.type "list",data:=.seq #[]}}) sS (by decide) (by decide) ?_);refine af (qy ?_);refine eY (fu (c:=.type "list") (d:=none) (vs:= #[]) (n:=0) (fun _=>(#[]:Array Value))) fun n1 e1=>?_;haveI mJ:=(⟨by refine ez e1 ?_;exact Heap.get?_update_self _ sS.at_ (by refine aa e1 ?_;rfl),.inl rfl⟩:bY ((s.heap.push {cls:=.type "list",data:=.seq #[]}).update s.heap.objs.size (bK (fun _=>(#[]:Array Value)))) s.heap.objs.size (.type "list") none #[] n1);haveI yX:∀b o,s.heap.get? b=some o→((s.heap.push {cls:=.type "list",data:=.seq #[]}).update s.heap.objs.size (bK (fun _=>(#[]:Array Value)))).get? b=some o:=fun b o e=>
  (Heap.get?_update_other _ _ (Nat.ne_of_gt (Heap.lt_size e))).trans (Heap.get?_push_of_some _ e)
 refine xW (A:=A.in1) (s:={s with heap:=(s.heap.push {cls:=.type "list",data:=.seq #[]}).update s.heap.objs.size (bK (fun _=>(#[]:Array Value)))}) hh (X.keeps yX) hz (dg lU) ⟨yX _ _ so.at_,so.cls⟩ mJ fun h' tk nS hr s'=>?_;exact⟨rfl,hQ h' nS tk (fun b o e=>hr b o (Nat.ne_of_lt (Heap.lt_size e)) (yX b o e)) s'.at_⟩
theorem Dn(h:bh (KvR ρ) kvs ps)(hk:∀kv∈kvs,∀v,E2 kv.1 v=true→VR ρ kv.1 v)(MP:ItemsOf (fun i v=> ∃k x,ps[i]? =some (k,x)∧(bH w).is k v=true) acc ps.length):
  bh (VR ρ) (kvs.map (·.1)) acc.toList:=by
 obtain⟨l⟩:=acc;haveI h1:l.length=ps.length:=MP.1;haveI h2:∀j v,l[j]? =some v→∃k x,ps[j]? =some (k,x)∧(bH w).is k v=true:=fun j v e=>MP.2 j v (by simpa using e);clear MP;dsimp only
 induction h generalizing l with
 |nil=>cases l with
  |nil=>exact .nil
  |cons=>cases h1
 | @cons kv p kvs ps hp hps ih=>
  cases l with
  |nil=>cases h1
  |cons v l=>
   refine .cons ?_ (ih (fun kv' hm v'=>hk kv' (cZ _ hm) v') l (by simpa using h1) fun j v' e=>h2 (j+1) v' e);refine qU (h2 0 v rfl) fun k x e hi=>?_;cases e;refine hk kv (cI) v ?_;exact aa hp.1 hi
theorem Bw(h:E2 k v=true):VR ρ k v:=by
 cases k<;>first|exact nf h|exact Cv h|(cases h;done)|skip
 ·exact Value.isInt_shape h
 ·exact Value.isStrOf_shape h
section
variable{n l d ep:Nat}{xs:List AV}{kvs:List (AV×AV)}
theorem Jd{vs:Array β}(hv:bh R xs vs.toList)(sm:xs.length<bQ):vs.size≤sizeLine:=hv.size▸Nat.le_trans (Nat.le_of_lt sm) cA
theorem Uy(hl:H[l]? =some (.list xs)):Cl n (.glob .list) [.loc l] H (.loc H.length) (H++[.list xs]):=.blt rfl fun K hv=>iy.one hv fun _ x=>VR.eF x fun a ha s n _ _ q=>n.list hl ha fun vs k ho sm hv=>
 call_list_seq (hsz:=Jd hv sm) a (.inl rfl) ho rfl rfl fun h' c' hk hD=>q (_++[_]) _ _ ⟨fJ ..,rfl,Nat.le_refl _⟩ (n.made hk hD rfl ⟨sm,vs,c',rfl,hv⟩) n.vr
theorem Uz(hl:H[l]? =some (.dict kvs ep))(sm:kvs.length<bQ):Cl n (.glob .list) [.loc l] H (.loc H.length) (H++[.list (kvs.map (·.1))]):=.blt rfl fun{C A ρ _} K hv=>iy.one hv fun _ x=>VR.eF x fun a ha s n _ _ q=>n.dictAt hl ha fun ps hd hp _=>
 kdl_call (kdl_dict (knd:=bH C.w) (kvs:=ps) (ep:=ep) (n.o7 ha)) K.hh hd (hp.length▸Nat.le_trans (Nat.le_of_lt sm) cA) fun h' tk acc c' hk hD MP=>
  q (_++[_]) _ _ ⟨fJ ..,rfl,Nat.le_refl _⟩ (n.made (s':={s with heap:=h',toks:=tk}) hk hD rfl ⟨(by show(kvs.map _).length<bQ;rw[bR];exact sm),acc,c',rfl,Dn hp (fun kv _ v h=>Bw h) MP⟩) n.vr
theorem Zb(hl:H[l]? =some (.dom xs d)):Cl n (.glob .list) [.loc l] H (.loc H.length) (H++[.list xs]):=.blt rfl fun K hv=>iy.one hv fun _ x=>VR.eF x fun a ha s n _ _ q=>n.dom hl ha fun vs k dx _ so hv hz=>
 QO K.hh (n.jl K.B).X hz so fun h' c' tk hk hD=>q (_++[_]) _ _ ⟨fJ ..,rfl,Nat.le_refl _⟩ (n.made (s':={s with heap:=h',toks:=tk}) hk hD rfl ⟨Nat.lt_of_le_of_lt (Nat.le_of_eq hv.size) hz,vs,c',rfl,hv⟩) n.vr
theorem UA(hl:H[l]? =some (.list xs)):Cl n (.glob .tuple) [.loc l] H (.loc H.length) (H++[.tuple xs]):=.blt rfl fun K hv=>iy.one hv fun _ x=>VR.eF x fun a ha s n _ _ q=>n.list hl ha fun vs k ho sm hv=>
 call_tuple_list (di ho) (fun h' hk=>by
  haveI n':=n.grow (s':={s with heap:=h'}) hk rfl;exact q (_++[_]) _ _ ⟨fJ ..,rfl,Nat.le_refl _⟩ (n'.push (s':={s with heap:=h'.push {cls:=.type "tuple",data:=.seq vs}}) rfl rfl ⟨sm,vs,0,rfl,hv⟩) n'.vr) (Jd hv sm)
end
end
section
variable{w:bz}{A:aG}{s:aB}{E:Value→aB→Prop}
theorem yh(X:(KK w).In s.heap)(h:∀tk,Q (.builtin "list.__init__",[]) {s with toks:=tk}):wpAny (model PG w) A (getMethod (.type "list") (av "__init__") pl) Q E s:=by
 delta getMethod;haveI L:∀M,eX M s.heap (specialOf (.type "list") "__getattribute__") (some (.builtin "type.__getattribute__")):=fun M=>
  (kQ ty_list).andThen (oY X (show findIn (KK w) (.type "type") "__getattribute__" =some (some (.builtin "type.__getattribute__"))from rfl))
 refine af ((L _).here ?_);dsimp only;refine aa (aF canon_tga) (af ?_);refine cls_open (K:=KK w) (mc:=.type "type") (hook:=none) (r:=.val (.builtin "list.__init__")) X (kQ (by delta opaqueClassAbove;kernel_rfl)) (kQ ty_list) rfl (looks_hook X rfl) rfl rfl (aE ?_);show wpAny _ _ (handedOut _) _ _ _;exact aa (handedOut_of (by decide+kernel)) (aE (aE (h _)))
end
section
variable{H:Hp}{l q d:Nat}{ys:List AV}
def Src(H:Hp)(q:Nat)(ys:List AV):Prop:=H[q]? =some (.list ys)∨H[q]? =some (.tuple ys)∨∃d',H[q]? =some (.dom ys d')
theorem aap(K:Kb C A)(hh:A.handled=none)(hx:VR ρ (.loc l) v)(hy:VR ρ (.loc q) u)(hl:H[l]? =some (.dom [] d))(hq:Src H q ys)(lU:l≠q)(sm:ys.length<bQ):Sm C A ρ VR H .none (H.set l (.dom ys d)) (call (.builtin "list.__init__") [v,u]):=
 VR.eF hx fun S hS=>VR.eF hy fun a ha s n Q E hR=>n.dom hl hS fun vs k dx IE sS hv _=>by
 have S5:S≠a:=fun h=>by cases n with|mk N St D _=>exact lU (D.inj hS (h▸ha))
 obtain rfl:vs= #[]:=Array.eq_empty_of_size_eq_zero hv.size.symm;refine iw (i:= "list.__init__") (owner:= "list") (n:= "__init__") ⟨.inl (by decide+kernel),by decide+kernel,by decide+kernel,PySem.F.entry_list_init⟩ (n.jl K.B).X sS.ob rfl (F.args_list_init_2 _ _) ?_;show wpAny _ _ (do let old ←Builtin.List.listItems (.ref S);Builtin.List.listUpdate (.ref S) (fun _=> #[]);letGo old.toList.reverse;Builtin.List.listExtendWith (.ref S) (.ref a) .none) _ _ _
 refine af (fq sS ?_);refine af (cY sS (by decide) (by decide) ?_);refine af (qy ?_);refine eY (fu (c:=.ref 303) (d:=some dx) (vs:= #[]) (n:=k) (fun _=>(#[]:Array Value))) fun n1 e1=>?_;have mJ:=(⟨by refine ez e1 ?_;exact Heap.get?_update_self _ sS.at_ (by refine aa e1 ?_;rfl),.inr rfl⟩:bY (s.heap.update S (bK (fun _=>(#[]:Array Value)))) S (.ref 303) (some dx) #[] n1);have yX:∀b o,b≠S→s.heap.get? b=some o→(s.heap.update S (bK (fun _=>(#[]:Array Value)))).get? b=some o:=fun b o hb e=>(Heap.get?_update_other _ _ (dg hb)).trans e;have done:∀(s':aB)(ws:Array Value)(k':Nat),Rest (fun b=>b=S) s.heap s'.heap→s'.heap.get? S=some ⟨.ref 303,some dx,.seq ws k', #[]⟩→bh (VR ρ) ys ws.toList→s'.gens=s.gens→s'.os=s.os→Q .none s':=fun s' ws k' hr hg hw g1 g2=>
  hR ρ s' .none (.of dz g1 g2) (n.Ux hS hr hg ⟨sm,dx,ws,k',IE,rfl,hw⟩ g1) rfl
 have plain:∀{o:Obj}{ws:Array Value}{kw:Nat},s.heap.get? a=some o→(o.cls=.type "list" ∨o.cls=.type "tuple")→o.data=.seq ws kw→bh (VR ρ) ys ws.toList→
   wpAny (model PG C.w) A.in1 (Builtin.List.listExtendWith (.ref S) (.ref a) .none) (uV C.w A (rB Q E)) E {s with heap:=s.heap.update S (bK (fun _=>(#[]:Array Value)))}:=fun{o ws kw} EG hc hd hw=>by
  unfold Builtin.List.listExtendWith;haveI hb:({s with heap:=s.heap.update S (bK (fun _=>(#[]:Array Value)))}:aB).heap.get? a=some o:=yX _ _ (dg S5) EG;refine af ((vj.type (h:=({s with heap:=s.heap.update S (bK (fun _=>(#[]:Array Value)))}:aB).heap) ⟨o,hb,rfl⟩:eX (model PG C.w) _ (typeOf (.ref a)) o.cls).here ?_);haveI ht:(Builtin.List.listSameRef (.ref S) (.ref a)||o.cls==.type "list" ||o.cls==.type "tuple")=true:=by
   rcases hc with e|e<;>refine aa e ?_<;>simp
  simp only[ht,if_true];refine af (AX hb hd ?_);refine af (fq (s:={s with heap:=s.heap.update S (bK (fun _=>(#[]:Array Value)))}) mJ ?_);have hws:ws.size≤bQ:=hw.size▸Nat.le_of_lt sm;have hl0:(!(#[]:Array Value).isEmpty&&Builtin.List.listTooLong ((#[]:Array Value).size+ws.size))=false:=rfl;simp only[hl0,jT,if_false];refine af (cY (s:={s with heap:=s.heap.update S (bK (fun _=>(#[]:Array Value)))}) mJ (by decide) (by simpa using hws) (aE ?_));refine eY (fu (c:=.ref 303) (d:=some dx) (vs:= #[]) (n:=n1) (fun xs:Array Value=>xs++ws)) fun n2 e2=>?_;refine done _ ws n2 (fun b o hb e=>(Heap.get?_update_other _ _ (dg hb)).trans (yX b o hb e)) ?_ hw rfl rfl;haveI:=Heap.get?_update_self (bK (fun xs:Array Value=>xs++ws)) mJ.at_ (by refine aa e2 ?_;rfl);rw[e2]at this
  simpa using this
 rcases hq with hq|hq|⟨d',hq⟩
 ·exact n.list hq ha fun ws kw EG _ hw=>plain EG (.inl rfl) rfl hw
 ·exact n.tup hq ha fun ws kw EG _ hw=>plain EG (.inr rfl) rfl hw
 ·refine n.dom hq ha fun ws kw dx' aeC so hw hz=>?_;refine xW (A:=A) (s:={s with heap:=s.heap.update S (bK (fun _=>(#[]:Array Value)))}) hh ?_ hz S5 ⟨yX _ _ (dg S5) so.at_,.inr rfl⟩ mJ fun h' tk nS hr s'=>?_
  ·haveI n₁:bf C ρ (H.set l (.dom [] d)) {s with heap:=s.heap.update S (bK (fun _=>(#[]:Array Value)))}:=n.upd hS sS.at_ ⟨(by decide:0<bQ),⟨dx, #[],n1,IE,e1,.nil⟩⟩ rfl rfl;exact(n₁.jl K.B).X
  ·exact done {s with heap:=h',toks:=tk} ws nS (fun b o hb e=>hr b o hb (yX b o hb e)) s'.at_ hw rfl rfl
end
noncomputable abbrev nu(dx:ah):Obj:={cls:=.ref 303,dict:=some dx,data:=.seq #[]}
structure Zc(M:k7)(h:Heap):Prop where
 obj:∃oc od cd sl,h.get? 303=some ⟨oc,od,.cls cd,sl⟩∧cd.abstract=false∧cd.hasDel=false∧cd.mro.isEmpty=false
 made:eX M h (Bind.madeBy (.ref 303)) (some "list.__new__")
 base:eX M h (Bind.staticBase (.ref 303)) (.ref 303)
 self:eX M h (isSubtype (.ref 303) (.ref 303)) true
 top:eX M h (isSubtype (.ref 303) (.type "list")) true
 call:eX M h (specialOf (.ref 303) "__call__") (some (.builtin "type.__call__"))
 typ:eX M h (isInstance (.ref 303) (.type "type")) true
theorem UB(w:bz):∃oc od cd sl,(KK w).lookup 303=some ⟨oc,od,.cls cd,sl⟩∧cd.abstract=false∧cd.hasDel=false∧(sl.toList[4]?).join=some (.builtin "list.__new__")∧cd.mro=[.ref 303,.type "list",.type "object"]:=⟨_,_,_,_,rfl,rfl,rfl,rfl,rfl⟩
theorem PO(X:(KK w).In h):Zc M h:=by
 refine ac0 (UB w) fun oc od cd sl ho e1 e2 e3 e4=>?_;haveI hc:clsIn (KK w) 303=some cd:=by unfold clsIn;(refine aa ho ?_;with_reducible rfl)
 have hm:eX M h (mroOf (.ref 303)) cd.mro:=(Gj X hc).andThen .now;have made:eX M h (Bind.madeBy (.ref 303)) (some "list.__new__"):=by
  intro A Q E s k q;refine af (hm A _ E s k ?_);rw[e4,tL];refine af (af (af (af (ux (k _ _ (X _ _ ho)) (aE ?_)))))
  (refine ez Array.getElem?_toList ?_;refine aa e3 ?_)
  exact aE (aE (aE q))
 refine⟨⟨oc,od,cd,sl,X _ _ ho,e1,e2,by refine aa e4 ?_;rfl⟩,made,?_,Gi X rfl,Gi X rfl,looks_specialIn X rfl,looks_instIn X rfl⟩;intro A Q E s k q;refine af (hm A _ E s k ?_);rw[e4,tL];exact af (af (af (made A _ E s k (aE (aE (aE q))))))
section
variable{w:bz}{A:aG}{R:kC→aB→Prop}{h:Heap}{g:Array oX}{d:Drawn}{t:Nat}{os:AD}
theorem UC(X:(KK w).In h)
  (hq:R (.ok (.ret (.ref (h.objs.size+1)))) ⟨(h.push emptyDict).push (nu h.objs.size),g,d,t,os⟩):
  codeAny (model PG w) A (.call (.builtin "list.__new__") ⟨[.ref 303,v],[]⟩) R ⟨h,g,d,t,os⟩:=by
 obtain⟨⟨oc,od,cd,sl,hC,e1,e2,e4⟩,made,base,self,top,call,typ⟩:=PO (M:=model PG w) X;refine codeAny_call_builtin_code (kj F.plain_list_new _) ?_;haveI hk:builtinKind "list.__new__" =some .builtinFn:=by decide+kernel
 haveI hs:splitId "list.__new__" =some ("list", "__new__"):=by decide+kernel
 simp only[checkBuiltinCall,hk,hs];refine aa (aF (by decide)) (af ?_);refine af (ux hC (aE ?_));refine af (top.at ?_);refine af (base.at (af (made.at ?_)));refine aE ?_;refine codeAny_builtin_stack F.entry_list_new rfl fun p st=>?_;refine aa (nP F.plain_list_new _) ?_;haveI XY:=owner_list_new;simp only[XY];refine af ?_;refine af (ux hC (aE ?_));refine af (top.at ?_);refine af (aE ?_);refine aa (au (by decide)) (af (nK ?_));dsimp only;refine af ?_;show wpAny _ _ (newObjAsIs _ _ _) _ _ _;delta newObjAsIs classHasDel;refine af (Ay (af (af (tF (Heap.get?_push_of_some _ (Heap.get?_push_of_some _ hC)) (aE ?_)))));refine aa e2 (aE (aE ?_));show R _ _;rw[Heap.size_push];exact hq
theorem QS(X:(KK w).In h)(hi:findIn (KK w) (.ref 303) "__init__" =some (some (.ref f)))(hf:typeIn (KK w) (.ref f)=some (.type "function"))
  (hq:codeAny (model PG w) (A.under (.builtin "type.__call__" ⟨[.ref 303,v],[]⟩)) (.call (.ref f) ⟨[.ref (h.objs.size+1),v],[]⟩) (InitBack (h.objs.size+1) R) ⟨(h.push emptyDict).push (nu h.objs.size),g,d,t,os⟩):
  codeAny (model PG w) A (.call (.ref 303) ⟨[v],[]⟩) R ⟨h,g,d,t,os⟩:=by
 obtain⟨⟨oc,od,cd,sl,hC,e1,e2,e4⟩,made,base,self,top,call,typ⟩:=PO (M:=model PG w) X;refine Au ?_;refine nd_load hC ?_;show wpAny _ _ (O5 (.ref 303) _) _ _ _;refine af (call.at ?_);refine aa (show bindSpecial (.builtin "type.__call__") (.ref 303)=pure (.builtin "type.__call__",[.ref 303])from tc_bind _) (af (aE (af (aE ?_))));refine aE (a:=Fin.again (.call (.builtin "type.__call__") ⟨[.ref 303,v],[]⟩)) (tN rfl ?_);refine NT (O6 _ (by decide+kernel)) entry_typeCall (check_slot tc_kind tc_split typ (tc_args _ _ _) ?_);haveI hm:eX (model PG w) h (mroOf (.ref 303)) cd.mro:=((ng (part:=none) hC).andThen .now).andThen .now
 repeat (first|simp only[e4,jT,if_false]|with_reducible refine kq ?_|lk)
 refine UC X ?_;have k:∀b o,h.get? b=some o→((h.push emptyDict).push (nu h.objs.size)).get? b=some o:=fun b o e=>Heap.get?_push_of_some _ (Heap.get?_push_of_some _ e);haveI hx:((h.push emptyDict).push (nu h.objs.size)).get? (h.objs.size+1)=some (nu h.objs.size):=by heap_get
 haveI t1:eX (model PG w) ((h.push emptyDict).push (nu h.objs.size)) (typeOf (.ref (h.objs.size+1))) (.ref 303):=(ng hx).andThen .now;haveI s1:=self.keeps k;haveI i1:=(oY (M:=model PG w) X hi).keeps k;haveI b1:=(bind_fn (M:=model PG w) X (.ref (h.objs.size+1)) hf).keeps k
 repeat (first|with_reducible refine kq ?_|lk)
 refine Ax hq fun r s' z=>?_;rcases r with e|(v|_|_|_)<;>first|exact z|exact z.elim|skip
 obtain⟨rfl,z⟩:=z;exact aE (aE z)
end
section
variable{C:Cx}{A:aG}{ρ:List ah}{H H1:Hp}{s:aB}{n:Nat}
noncomputable abbrev C6(c:vN)(as':List Value):Code:=.builtin "type.__call__" ⟨.ref (fX c)::as',[]⟩
theorem Je(w:bz)(c:vN)(hc:c≠.domain)(hc':c≠.constraint):makesIn (KK w) (fX c)=true:=by
 cases c<;>first|rfl|exact absurd rfl hc|exact absurd rfl hc'
theorem bf.two(n:bf C ρ H s):bf C ((ρ++[s.heap.objs.size])++[s.heap.objs.size+1]) ((H++[.attrs []])++[.inst c H.length]) {s with heap:=(s.heap.push emptyDict).push (instObj (fX c) s.heap.objs.size)}:=by
 haveI n₁:bf C (ρ++[s.heap.objs.size]) (H++[.attrs []]) {s with heap:=s.heap.push emptyDict}:=n.push (s':={s with heap:=s.heap.push emptyDict}) rfl rfl ⟨trivial,[],0,rfl,by simp,.nil⟩;haveI dX:=n₁.push (s':={s with heap:=(s.heap.push emptyDict).push (instObj (fX c) s.heap.objs.size)}) (o:=.inst c H.length) (ob:=instObj (fX c) s.heap.objs.size) rfl rfl ⟨trivial,s.heap.objs.size,by refine ez n.length ?_;simp,rfl⟩;rw[show({s with heap:=s.heap.push emptyDict}:aB).heap.objs.size=s.heap.objs.size+1 from Heap.size_push ..]at dX;exact dX
theorem bf.Zd(n:bf C ρ H s):bf C ((ρ++[s.heap.objs.size])++[s.heap.objs.size+1]) ((H++[.attrs []])++[.dom [] H.length]) {s with heap:=(s.heap.push emptyDict).push (nu s.heap.objs.size)}:=by
 haveI n₁:bf C (ρ++[s.heap.objs.size]) (H++[.attrs []]) {s with heap:=s.heap.push emptyDict}:=n.push (s':={s with heap:=s.heap.push emptyDict}) rfl rfl ⟨trivial,[],0,rfl,by simp,.nil⟩;haveI dX:=n₁.push (s':={s with heap:=(s.heap.push emptyDict).push (nu s.heap.objs.size)}) (o:=.dom [] H.length) (ob:=nu s.heap.objs.size) rfl rfl ⟨(by decide:(0:Nat)<bQ),s.heap.objs.size, #[],0,by refine ez n.length ?_;simp,rfl,.nil⟩;rw[show({s with heap:=s.heap.push emptyDict}:aB).heap.objs.size=s.heap.objs.size+1 from Heap.size_push ..]at dX;exact dX
theorem Bx(n:bf C ρ H s):VR ((ρ++[s.heap.objs.size])++[s.heap.objs.size+1]) (.loc (H.length+1)) (.ref (s.heap.objs.size+1)):=⟨_,by refine ez n.length ?_;simp[List.getElem?_append],rfl⟩
theorem rI(ρ:List ah)(a b:ah):ρ<+:(ρ++[a])++[b]:=(fJ ρ [a]).trans (fJ ..)
theorem Kx.under(K:Kx n C A):Kc n C (A.under (C6 c as')):=by
 haveI w1:(C6 c as').weight=1:=by first|rfl|kernel_rfl
 haveI w2:(C6 c as').cUnits=1:=by first|rfl|kernel_rfl
 refine⟨K.B,K.hh,?_,?_,K.fr.imp fun _ h=>h.imp fun _ h=>⟨h.fs,h.frames,h.fr,h.kind,h.outs,h.nd⟩⟩
 ·haveI:=K.XW;show A.depth+(C6 c as').weight+_+_<_;lia
 ·haveI:=K.un9;show A.units+(C6 c as').cUnits+_+_<_;lia
theorem xx(c:vN)(hc:c≠.constraint)(X:(KK w).In h):∃k,eX (model PG w) h (keeperOf (.ref (fX c))) k:=
 (looks_keep (M:=model PG w) (K:=KK w) (f:=.ref (fX c)) (by cases c<;>first|rfl|exact absurd rfl hc) X).elim fun k h=>⟨k,h.2⟩
noncomputable def Jf:vN→Option Fn
 |.problem=>some .uC|.backtracking=>some .wk|.recursive=>some .wm
 |_=>none
theorem aaq(hc:Jf c=some fi)(h:Cf n fi (.loc (H.length+1)::as) ((H++[.attrs []])++[.inst c H.length]) .none H1):Cl n (.glob (.cls c)) as H (.loc (H.length+1)) H1 where
 keep B n e:=VR.qR e (xx c (fun q=>by subst q;cases hc) (n.jl B).X)
 go {C A ρ _ as'} K e hv:=VR.qR e fun s n Q E q=>by
  haveI X:=(n.jl K.B).X;haveI dX:=n.two (c:=c);haveI hx:=Bx n;refine kq ?_;obtain⟨hp,g,d,t,os⟩:=s;refine make_core (makes_of X (Je _ c (fun q=>by subst q;cases hc) fun q=>by subst q;cases hc)) (oY X (r:=some (.ref (vh fi))) (by cases c<;>first|exact nf hc|exact Cv hc|(cases hc;done)|(cases hc;rfl))) (fun self=>bind_fn X self (vA _ fi)) (.inl rfl) ?_
  refine Ax (h (K.under (c:=c) (as':=as')) (.cons hx (iy.mono (rI ..) hv)) _ dX (fun v s'=>v=.none∧rB Q E (.ok (.ret (.ref (hp.objs.size+1)))) s') E fun aV s' b g' n' hb=>⟨hb,q aV s' _ ⟨(rI ..).trans g'.p,g'.o,g'.g⟩ n' (hx.mono g'.p)⟩) fun r s' z=>?_;rcases r with e|(v|_|_|_)<;>exact z
theorem aar(h:Cf n .ru [.loc (H.length+1),x] ((H++[.attrs []])++[.dom [] H.length]) .none H1):Cl n (.glob (.cls .domain)) [x] H (.loc (H.length+1)) H1 where
 keep B n e:=VR.qR e (xx .domain (by decide) (n.jl B).X)
 go {C A ρ _ as'} K e hv:=VR.qR e (iy.one hv fun v hv s n Q E q=>by
  haveI dX:=n.Zd;haveI hx:=Bx n;refine kq ?_;haveI X:=(n.jl K.B).X;obtain⟨hp,g,d,t,os⟩:=s;refine QS (f:=vh .ru) X rfl (vA _ .ru) ?_;refine Ax (h (K.under (c:=.domain) (as':=[v])) (.cons hx (.cons (hv.mono (rI ..)) .nil)) _ dX (fun v s'=>v=.none∧rB Q E (.ok (.ret (.ref (hp.objs.size+1)))) s') E fun aV s' b g' n' hb=>⟨hb,q aV s' _ ⟨(rI ..).trans g'.p,g'.o,g'.g⟩ n' (hx.mono g'.p)⟩) fun r s' z=>?_;rcases r with e|(v|_|_|_)<;>exact z)
theorem UD(hc:c=.solver∨c=.dN):Cl n (.glob (.cls c)) [] H (.loc (H.length+1)) ((H++[.attrs []])++[.inst c H.length]) where
 keep B n e:=VR.qR e (xx c (by rcases hc with rfl|rfl<;>decide) (n.jl B).X)
 go {C A ρ _ as'} K e hv:=VR.qR e (iy.zq hv fun s n _ _ q=>by
  haveI X:=(n.jl K.B).X;haveI dX:=n.two (c:=c);haveI hx:=Bx n;haveI Y:=makes_of (M:=model PG C.w) X (Je _ c (by rcases hc with rfl|rfl<;>decide) (by rcases hc with rfl|rfl<;>decide))
  refine kq ?_;obtain⟨hp,g,d,t,os⟩:=s;refine make_core Y (oY X (r:=some (.builtin "object.__init__")) (by rcases hc with rfl|rfl<;>rfl)) (fun self=>kQ (oi_bind self)) (.inr ⟨rfl,rfl⟩) ?_
  haveI t1:eX (model PG C.w) ((hp.push emptyDict).push (instObj (fX c) hp.objs.size)) (typeOf (.ref (hp.objs.size+1))) (.ref (fX c)):=(ng (by heap_get)).andThen .now;haveI t2:eX (model PG C.w) ((hp.push emptyDict).push (instObj (fX c) hp.objs.size)) (isInstance (.ref (hp.objs.size+1)) (.type "object")) true:=t1.andThen (Y.top.keeps fun b o e=>Heap.get?_push_of_some _ (Heap.get?_push_of_some _ e));refine wH oi_plain entry_oi (@check_slot (model PG C.w) _ _ _ "object.__init__" "object" "__init__" (.ref (hp.objs.size+1)) [] [] _ oi_kind oi_split t2 (oi_args (.ref (hp.objs.size+1))) ?_);rw[oi_run];exact aE (tN rfl (q _ _ _ (.of (rI ..) rfl rfl) dX hx)))
theorem KR(ho:h.get? a=some o)(hd:o.data=.plain):∃k,eX M h (keeperOf (.ref a)) k:=by
 obtain⟨c,d,dt,sl⟩:=o;dsimp only at hd;subst hd;exact⟨_,(ng (part:=none) ho).andThen .now⟩
theorem KS(X:(KK C.w).In s.heap)(ho:s.heap.get? a=some o)(hd:o.data=.plain)(hc:o.cls=.ref (fX .dN))
  (h:codeAny (model PG C.w) A (.call (.ref (vh .aCall)) ⟨.ref a::as,[]⟩) R s):codeAny (model PG C.w) A (.call (.ref a) ⟨as,[]⟩) R s:=by
 obtain⟨oc,od,dt,sl⟩:=o;dsimp only at hd hc;subst hd hc;haveI x:vj s.heap a (.ref (fX .dN)):=⟨_,ho,rfl⟩;refine Au ?_;refine nd_load ho ?_;show wpAny _ _ (O5 (.ref a) _) _ _ _;refine af ((x.special X (r:=some (.ref (vh .aCall))) rfl).here ?_);refine af ((bind_fn X (.ref a) (vA C.w .aCall)).here ?_);obtain⟨fc,fd,fdt,fsl,hfo⟩:∃c d fd sl,(KK C.w).lookup (vh .aCall)=some ⟨c,d,.func fd,sl⟩:=⟨_,_,_,_,rfl⟩;refine af ?_;refine af (tF (X _ _ hfo) (aE ?_));exact aE ⟨rfl,h⟩
theorem E4(h:Cf n f as H w H1):Cl n (.glob (.fn f)) as H w H1:=⟨fun B n e=>VR.qR e (Bv (n.jl B).X f),fun K e hv=>VR.qR e (h K.toKc hv).call⟩
theorem Wu(hl:H[l]? =some (.inst .dN d))(h:Cf n .aCall (.loc l::as) H w H1):Cl n (.loc l) as H w H1 where
 keep B n e:=VR.eF e fun a ha=>(n.at hl ha).elim fun ob h=>by obtain⟨ho,_,dx,_,rfl⟩:=h;exact KR ho rfl
 go K e hv:=VR.eF e fun a ha s n _ _ q=>(n.at hl ha).elim fun ob ho=>by
  obtain⟨ho,_,dx,_,rfl⟩:=ho;exact kq (KS (n.jl K.B).X ho rfl rfl (h K.toKc (.cons ⟨a,ha,rfl⟩ hv) s n _ _ q))
end
section
variable{C:Cx}{A:aG}{ρ:List ah}{H H1 H2 H3:Hp}{env:Env}{u v w:AV}
theorem yM(l:aQ)(op:Operator)(r:aQ)(pos:Pos):PySem.eval (.BinOp l op r pos) env=(do
  let a ←PySem.eval l env
  let b ←PySem.holding [a] (PySem.eval r env)
  PySem.standAt pos
  PySem.operate [a,b] (binaryOp op a b)):=rfl
theorem Ze(K:Kb C A)(ha:Sm C A ρ VR H u H1 (PySem.eval l env))(hb:∀aV,ρ<+:aV→Sm C A aV VR H1 v H2 (PySem.eval r env))(o:Bo op u v H2 w H3):Sm C A ρ VR H w H3 (PySem.eval (.BinOp l (MZ op) r pos) env):=by
 rw[yM];exact ha.bind fun aD v i6 hx=>(hb aD i6).holding.bind fun cE u jw hy=>Sm.standAt (Sm.operate (o K (hx.mono jw) hy))
theorem Zf(ha:Sm C A ρ VR H (.int i) H1 (PySem.eval x env)):Sm C A ρ VR H (.int (-i)) H1 (PySem.eval (.UnaryOp .USub x pos) env):=
 (ha.bind fun aD v p hy=>Sm.standAt (Sm.holding (VR.gX hy fun t=>fun s n _ _ q=>neg_int (q aD _ _ (.toks aD s _ _) (n.toks _) ⟨_,rfl⟩))):Sm C A ρ VR H (.int (-i)) H1 (do let v ←PySem.eval x env;PySem.standAt pos;PySem.holding [v] (unaryOp .USub v)))
theorem ve(l:aQ)(op:CmpOp)(r:aQ)(pos:Pos)(hm:behindInMarks op r=false):PySem.eval (.Compare l [op] [r] pos) env=(do
  let a ←PySem.eval l env
  let b ←PySem.holding [a] (PySem.eval r env)
  PySem.standAt pos
  PySem.operate [a,b] (compareOp op a b)):=by
 show(do compareChain pos (←PySem.eval l env) [op] (markedEach [op] [r] (evalEach [r] env)))=_
 refine aa (OU [op] [r] _ (by simpa [lastMarks] using hm)) ?_;rfl
theorem sy(l:aQ)(op:CmpOp)(r:aQ)(pos:Pos)(hm:behindInMarks op r=false)(wh:Sem Value):isTrue (.Compare l [op] [r] pos) env wh=(do
  let a ←PySem.eval l env
  let b ←PySem.holding [a] (PySem.eval r env)
  PySem.standAt pos
  let c ←PySem.operate [a,b] (compareOp op a b)
  PySem.holding [c] (PySem.truthy c)):=by
 show(do testChain pos (←PySem.eval l env) [op] (markedEach [op] [r] (evalEach [r] env)))=_
 refine aa (OU [op] [r] _ (by simpa [lastMarks] using hm)) ?_;rfl
theorem Zg(K:Kb C A)(hm:behindInMarks (wo op) r=false)(ha:Sm C A ρ VR H u H1 (PySem.eval l env))(hb:∀aV,ρ<+:aV→Sm C A aV VR H1 v H2 (PySem.eval r env))(o:Co op u v H2 c):Sm C A ρ VR H (.bool c) H2 (PySem.eval (.Compare l [wo op] [r] pos) env):=by
 exact aa (ve _ _ _ _ hm) (ha.bind fun aD v i6 hx=>(hb aD i6).holding.bind fun cE u jw hy=>Sm.standAt (Sm.operate (o K (hx.mono jw) hy)))
theorem Zh(K:Kb C A)(hm:behindInMarks (wo op) r=false)(ha:Sm C A ρ VR H u H1 (PySem.eval l env))(hb:∀aV,ρ<+:aV→Sm C A aV VR H1 v H2 (PySem.eval r env))(o:Co op u v H2 c):Sm C A ρ B1 H c H2 (isTrue (.Compare l [wo op] [r] pos) env wh):=by
 rw[sy _ _ _ _ hm];exact ha.bind fun aD v i6 hx=>(hb aD i6).holding.bind fun cE u jw hy=>Sm.standAt ((Sm.operate (o K (hx.mono jw) hy)).bind fun jf v J2 hc=>VR.qR hc (Sm.holding fun s n _ _ q=>s7 (q jf s _ (.refl jf s) n rfl)))
theorem iY(f:Str)(p:Pos)(xs:List aQ)(pos:Pos):PySem.eval (.Call (.Name f p) xs [] pos) env=(do
  let g ←PySem.eval (.Name f p) env
  callWith pos g [] (backTo pos (starEach xs env)) []):=rfl
theorem Jg(K:Kx n C A)(hp:(xs.all fun x=> !cX x)=true)(hf:Sm C A ρ VR H u H1 (PySem.eval (.Name f p) env))(has:∀aV,ρ<+:aV→Sm C A aV iy H1 vs H2 (spliced (backTo pos (starEach xs env))))(o:Cl n u vs H2 w H3):
  Sm C A ρ VR H w H3 (PySem.eval (.Call (.Name f p) xs [] pos) env):=by
 rw[iY];exact hf.bind fun aD g i6 hg s n₁ _ _ q=>j7 (eu hp pos) (iW (eu hp pos) (has aD i6 s n₁ _ _ fun cE bM sF ja dX hv=>
  ⟨o.keep K.B dX (hg.mono ja.p),o.go K (hg.mono ja.p) hv bM dX _ _ fun jf fH b j3=>q jf fH b (ja.trans j3)⟩))
theorem QT(K:Kb C A)(hh:A.handled=none)(hs:cX x=false∧cX y=false)(adb:(apos.endLine==pos.line)=true)(hl:∀aV,ρ<+:aV→Sm C A aV VR H (.glob .list) H (PySem.eval (.Name (av "list") p) env))
  (ha:∀aV,ρ<+:aV→Sm C A aV VR H (.loc l) H1 (PySem.eval x env)) (hb:∀aV,ρ<+:aV→Sm C A aV VR H1 (.loc q) H2 (PySem.eval y env)) (ho:H2[l]? =some (.dom [] d)) (hq:Src H2 q ys) (lU:l≠q) (sm:ys.length<bQ):
  Sm C A ρ VR H .none (H2.set l (.dom ys d)) (PySem.eval (.Call (.Attribute (.Name (av "list") p) (av "__init__") apos) [x,y] [] pos) env):=
 fun s n _ _ q=>vB rfl (by rw[lu,adb];simp[hs.1,hs.2]) ((hl ρ dz) s n _ _ fun VZ s1 v g n1 hv=>VR.qR hv fun pl=>yh (n1.jl K.B).X fun tk=>
  (args_cons hs.1 (ha VZ g.p) fun cE jw=>args_cons hs.2 (hb cE (g.p.trans jw)) fun jf J2=>args_nil) _ (n1.toks tk) _ _ fun ρ2 s2 vs g2 n2 nZ=>⟨⟨_,kQ rfl⟩,
   iy.two nZ fun _ _ x y=>aap K hh x y ho hq lU sm s2 n2 _ _ fun ρ3 s3 b g3=>q ρ3 s3 b (g.trans ((Go.toks VZ s1 _ tk).trans (g2.trans g3)))⟩)
end
section
variable{C:Cx}{A:aG}{ρ:List ah}{H H1 H2:Hp}{env:Env}{kd:cK}{ν:Slots}{lm:LM}
theorem QU:Sm C A ρ VR H (.loc H.length) (H++[.dict [] 0]) (PySem.eval (.Dict [] [] pos) env):=
 (Sm.standAt fun s n _ _ q=>nK (q (ρ++[s.heap.objs.size]) _ _ ⟨fJ ..,rfl,Nat.le_refl _⟩ (n.push (ob:=dictOf [] 0) rfl rfl ⟨(by decide:0<bQ),[],rfl,.nil,.nil⟩) n.vr):Sm C A ρ VR H (.loc H.length) (H++[.dict [] 0]) (do PySem.standAt pos;newDict))
theorem QV(ok:fy env kd)(hx:lq x=true)(hy:lq y=true)(hi:ν.lookup x=some i)(hj:ν.lookup y=some j)(l:LR C env ν ρ lm)(ha:lm[i]? =some (some a))(hb:lm[j]? =some (some b))(hk:keyOk a=true):
  Sm C A ρ VR H (.loc H.length) (H++[.dict [(a,b)] 1]) (PySem.eval (.Dict [some (.Name x px)] [.Name y py] pos) env):=
 (l x i a hi ha).elim fun va ra=>(l y j b hj hb).elim fun vb rb s n Q E hR=>by
 show wpAny _ _ (PySem.standAt pos>>=fun _=>dictDisplay ([(PySem.eval (.Name x px) env,(PySem.eval (.Name y py) env>>=fun x=>PySem.standAt pos>>=fun _=>pure x))].map fun p=>(some p.1,p.2))) _ _ _;refine af (gz ?_);refine aa (dictDisplay_pairs _ (by simp) (by simp)) ?_;refine af ?_;delta subDict;refine af (Ay (af (dB ?_)));refine aa (aF (by simp)) ?_;haveI n₁:bf C ρ H {s with heap:=s.heap.push {cls:=.type "dict",data:=.dict #[]}}:=n.grow (fun _ _ e=>Heap.get?_push_of_some _ e) rfl;refine af (evalPairs_cons (Az (Bp ok hx n₁ ra.1 ?_) (iV hx)));refine af (Az (Bp ok hy n₁ rb.1 ?_) (iV hy));refine af (gz (aE (evalPairs_nil ?_)));refine dB ?_;refine af ?_;rw[tL];haveI hD:(s.heap.push {cls:=.type "dict",data:=.dict #[]}).get? s.heap.objs.size=some (dictOf [] 0):=Heap.get?_push_size _ rfl;refine af (af (Jb (s:={s with heap:=s.heap.push {cls:=.type "dict",data:=.dict #[]}}) (es:=[]) (ep:=0) (jH hk ra.2) hD (fun e he=>by simp at he) (by decide) fun f tk ef=>aE (aE ?_)));refine aE (aE (aE ?_));refine hR (ρ++[s.heap.objs.size]) _ _ ⟨fJ ..,rfl,Nat.le_refl _⟩ (n.made (s':={s with heap:=(s.heap.push {cls:=.type "dict",data:=.dict #[]}).update s.heap.objs.size f,toks:=tk}) (fun b o e=>?_) (ob:=dictOf (Ai C.w a va vb []) 1) ?_ rfl ⟨(by decide:1<bQ),_,rfl,by simp,?_⟩) n.vr
 ·exact(Heap.get?_update_other _ _ (Nat.ne_of_gt (Heap.lt_size e))).trans (Heap.get?_push_of_some _ e)
 ·haveI:=Heap.get?_update_self f hD (by refine aa ef ?_;rfl);rw[ef]at this;exact this
 ·exact Dk (w:=C.w) (ρ:=ρ) (kvs:=[]) (es:=[]) .nil hk (jH hk ra.2) rb.2
variable{a b c:Bool}{u v w:AV}
theorem ade(ht:Sm C A ρ B1 H true H1 (isTrue tx env (PySem.eval tx env)))(ha:∀aV,ρ<+:aV→Sm C A aV VR H1 v H2 (PySem.eval ax env)):Sm C A ρ VR H v H2 (PySem.eval (.IfExp tx ax bx pos) env):=
 (ht.bind fun aD v p hc=>by refine aa (show v=true from hc) ?_;exact ha aD p:Sm C A ρ VR H v H2 (do if ←isTrue tx env (PySem.eval tx env)then PySem.eval ax env else PySem.eval bx env))
theorem adf(ht:Sm C A ρ B1 H false H1 (isTrue tx env (PySem.eval tx env)))(ha:∀aV,ρ<+:aV→Sm C A aV VR H1 v H2 (PySem.eval bx env)):Sm C A ρ VR H v H2 (PySem.eval (.IfExp tx ax bx pos) env):=
 (ht.bind fun aD v p hc=>by refine aa (show v=false from hc) ?_;exact ha aD p:Sm C A ρ VR H v H2 (do if ←isTrue tx env (PySem.eval tx env)then PySem.eval ax env else PySem.eval bx env))
theorem or_eq:PySem.eval (.BoolOp .Or [ax,bx] pos) env=(do
  let v ←PySem.eval ax env
  PySem.standAt pos
  let t ←PySem.holding [v] (PySem.truthy v)
  if t then pure v else PySem.eval bx env):=by
 show boolOp pos .Or [PySem.eval ax env,PySem.eval bx env]=_;exact aR (fun k=>PySem.eval ax env>>=k) (funext fun v=>aR (fun k=>PySem.standAt pos>>=k) (funext fun _=>aR (fun k=>PySem.holding [v] (PySem.truthy v)>>=k) (funext fun t=>by cases t<;>rfl)))
theorem adg(K:Kb C A)(ha:Sm C A ρ VR H u H1 (PySem.eval ax env))(k:Tr u H1 false)(hb:∀aV,ρ<+:aV→Sm C A aV VR H1 v H2 (PySem.eval bx env)):Sm C A ρ VR H v H2 (PySem.eval (.BoolOp .Or [ax,bx] pos) env):=by
 refine aa or_eq ?_;exact ha.bind fun aD v p hx=>Sm.standAt ((k K hx).holding.bind fun cE t jw hc=>by refine aa (show t=false from hc) ?_;exact hb cE (p.trans jw))
theorem Zi(ha:Sm C A ρ B1 H (!c) H1 (isTrue ax env (PySem.eval ax env))):Sm C A ρ B1 H c H1 (isTrue (.UnaryOp .Not ax pos) env wh):=
 (ha.map fun aD v hc=>by rw[show v= !c from hc,Gf]:Sm C A ρ B1 H c H1 (do return !(←isTrue ax env (PySem.eval ax env))))
theorem By(ha:Sm C A ρ B1 H c H1 (isTrue ax env (PySem.eval ax env))):Sm C A ρ B1 H c H1 (allTrue op [ax] env):=
 (ha.bind fun aD v p hc=>by obtain rfl:=(show v=c from hc);cases op<;>cases v<;>exact .pure rfl:Sm C A ρ B1 H c H1 (do
  let t ←isTrue ax env (PySem.eval ax env)
  match op,t with
  |.And,false=>pure false
  |.Or,true=>pure true
  |_,_=>pure (op==.And)))
noncomputable def zv:BoolOp→Bool
 |.And=>false|.Or=>true
theorem Jh(ha:Sm C A ρ B1 H (zv op) H1 (isTrue ax env (PySem.eval ax env))):Sm C A ρ B1 H (zv op) H1 (allTrue op (ax::y::rest) env):=
 (ha.bind fun aD v p hc=>by refine aa (show v=zv op from hc) ?_;cases op<;>exact .pure rfl:Sm C A ρ B1 H (zv op) H1 (do match op,←isTrue ax env (PySem.eval ax env)with|.And,false=>pure false|.Or,true=>pure true|_,_=>allTrue op (y::rest) env))
theorem vD(ha:Sm C A ρ B1 H (!zv op) H1 (isTrue ax env (PySem.eval ax env)))(hb:∀aV,ρ<+:aV→Sm C A aV B1 H1 c H2 (allTrue op (y::rest) env)):Sm C A ρ B1 H c H2 (allTrue op (ax::y::rest) env):=
 (ha.bind fun aD v p hc=>by refine aa (show v= !zv op from hc) ?_;haveI h:=hb aD p;cases op<;>exact h:Sm C A ρ B1 H c H2 (do match op,←isTrue ax env (PySem.eval ax env)with|.And,false=>pure false|.Or,true=>pure true|_,_=>allTrue op (y::rest) env))
noncomputable def plainT:aQ→Bool
 |.UnaryOp .Not _ _=>false
 |.BoolOp .. =>false
 |.IfExp .. =>false
 |.Compare .. =>false
 |_=>true
theorem isTrue_plain(h:plainT e=true)(wh:Sem Value):isTrue e env wh=(do
  let v ←wh
  PySem.standAt e.pos
  PySem.holding [v] (PySem.truthy v)):=by
 cases e<;>first|rfl|(cases h;done)|skip
 rename_i op x pos
 cases op<;>first|rfl|cases h
theorem GW(K:Kb C A)(hx:plainT x=true)(h:Sm C A ρ VR H u H1 (PySem.eval x env))(k:Tr u H1 c):Sm C A ρ B1 H c H1 (isTrue x env (PySem.eval x env)):=by
 rw[isTrue_plain hx];exact h.bind fun aD v p hy=>Sm.standAt (k K hy).holding
end
@[reducible] def Cx.aM (C:Cx) (X:Led):Cx:={C with X:=X}
section
variable{C:Cx}{A:aG}{ρ:List ah}{H:Hp}{s s':aB}
theorem bf.yz(n:bf C ρ H s){ob:Obj}(hh:s'.heap=s.heap.push ob)(hg:s'.gens=s.gens)(hf:ob.isFreed=false):bf (C.aM ((s.heap.objs.size,ob)::C.X)) ρ H s':=by
 obtain⟨N,S,D,b⟩:=n;haveI fr:=S.iG;refine⟨_,hh▸S.push ob hf,⟨D.len,D.nd,fun l o e=>?_,fun p hp=>?_,fun p hp=>?_⟩,hg▸b⟩
 ·refine jZ (D.ob l o e) fun a jJ e1 e2 e3=>?_;exact⟨a,jJ,e1,.tail _ e2,e3⟩
 ·rcases bw.mp hp with rfl|hp
  ·exact .head _
  ·exact .tail _ (D.ext p hp)
 ·rcases bw.mp hp with rfl|hp
  ·intro q;obtain⟨i,hi,e⟩:=wR q;have VY:i<H.length:=D.len▸hi;refine jZ (D.ob i H[i] (jy VY)) fun b jJ e1 e2 _=>?_;rw[jy hi,e]at e1;cases e1;exact fr (dF (f:=je) e2)
  ·exact D.sep p hp
theorem bf.qp(n:bf C ρ H s){X:Led}(h:∀p∈X,p∈C.X):bf (C.aM X) ρ H s:=by
 obtain⟨N,S,D,b⟩:=n;exact⟨N,S,⟨D.len,D.nd,D.ob,fun p hp=>D.ext p (h p hp),fun p hp=>D.sep p (h p hp)⟩,b⟩
theorem bf.QW(n:bf C ρ H s){a:ah}{o o':Obj}(h:(a,o)∈C.X)(h':(a,o')∈C.X):o=o':=by
 obtain⟨N,S,D,b⟩:=n;exact Qu S.nd (D.ext _ h) (D.ext _ h')
theorem bf.yC(n:bf C ρ H s){a:ah}{o o':Obj}(h:(a,o)∈C.X)(hs:Rest (fun b=>b=a) s.heap s'.heap)(e:s'.heap.get? a=some o')(hg:s'.gens=s.gens):bf (C.aM (putN a o' C.X)) ρ H s':=by
 obtain⟨N,S,D,b⟩:=n;haveI DD:=S.nw _ (D.ext _ h);refine⟨putN a o' N,⟨⟨?_,fun b x q=>hs b x (fun z=>?_) (S.fr.keep b x q),S.fr.above⟩,fun p hp=>?_,by rw[gP];exact S.nd,S.big,vt S.low,
  S.fs.grow (fun b o q hb _ _=>hs b o (fun z=>hb _ (D.ext _ h) z.symm) q) fun p hp=>.inr (.inl (gP a o' N▸dF (f:=je) hp))⟩,⟨D.len,D.nd,fun l x q=>?_,fun p hp=>?_,fun p hp=>?_⟩,hg▸b⟩
 ·refine CJ (S.fr.ns) fun oL es ep q1 q2=>?_;exact⟨oL,es,ep,hs _ _ (dg DD.2.1) q1,q2⟩
 ·haveI:=DD.2.2;rw[←z]at this;rw[this]at q;cases q
 ·obtain⟨b,x⟩:=p;rcases iH hp with⟨rfl,rfl⟩|⟨hb,hp⟩
  ·exact⟨e,DD.2⟩
  ·haveI P:=S.nw _ hp;exact⟨hs b x hb P.1,P.2⟩
 ·refine jZ (D.ob l x q) fun b jJ e1 e2 e3=>?_;exact⟨b,jJ,e1,cH e2 (fun z=>D.sep _ h (z▸uy e1)),e3⟩
 ·obtain⟨b,x⟩:=p;rcases iH hp with⟨rfl,rfl⟩|⟨hb,hp⟩
  ·exact eL (D.ext _ h)
  ·exact cH (D.ext _ hp) hb
 ·obtain⟨b,x⟩:=p;rcases iH hp with⟨rfl,rfl⟩|⟨hb,hp⟩
  ·show b∉ρ;exact D.sep _ h
  ·exact D.sep _ hp
inductive Wk(H:Hp)(l:Nat)(xs:List AV):Prop
 |list (h:H[l]? =some (.list xs))
 |dict (kvs:List (AV×AV)) (ep:Nat) (h:H[l]? =some (.dict kvs ep)) (e:kvs.map (·.1)=xs)
 |vals (d:Nat) (kvs:List (AV×AV)) (ep:Nat) (h:H[l]? =some (.jB d)) (hd:H[d]? =some (.dict kvs ep)) (e:kvs.map (·.2)=xs)
 |pX (lo hi:Int) (h:H[l]? =some (.pX lo hi)) (e:(kO (hi -lo).toNat).map (fun(i:Nat)=>AV.int (lo+(i:Int)))=xs)
def gW(H:Hp)(l:Nat)(H':Hp):Prop:=H'[l]? =H[l]? ∧∀d,H[l]? =some (.jB d)→H'[d]? =H[d]?
theorem gW.refl(H:Hp)(l:Nat):gW H l H:=⟨rfl,fun _ _=>rfl⟩
inductive EH(ρ:List ah)(H:Hp)(l:Nat)(xs:List AV)(i:Nat)(o:Obj):Prop
 |list (a:ah) (h:H[l]? =some (.list xs)) (ha:ρ[l]? =some a) (c:o.cls=.type "list_iterator") (d:o.data=.fields #[.ref a,.int i 0])
 |dict (a:ah) (kvs:List (AV×AV)) (ep:Nat) (h:H[l]? =some (.dict kvs ep)) (e:kvs.map (·.1)=xs) (ha:ρ[l]? =some a) (c:o.cls=.type "dict_keyiterator") (d:o.data=.fields #[.ref a,.int i 0,.int kvs.length 0,.int ep 0])
 |vals (a:ah) (q:Nat) (kvs:List (AV×AV)) (ep:Nat) (h:H[l]? =some (.jB q)) (hd:H[q]? =some (.dict kvs ep)) (e:kvs.map (·.2)=xs) (ha:ρ[q]? =some a) (c:o.cls=.type "dict_valueiterator") (d:o.data=.fields #[.ref a,.int i 0,.int kvs.length 0,.int ep 0])
 |pX (lo hi:Int) (h:H[l]? =some (.pX lo hi)) (e:(kO (hi -lo).toNat).map (fun(i:Nat)=>AV.int (lo+(i:Int)))=xs) (d:o=⟨.type "range_iterator",none,.fields #[rawInt (lo+(i:Nat)*1),rawInt (((hi -lo).toNat:Int) -(i:Nat)),rawInt 1], #[]⟩)
theorem EH.to{ρ aV:List ah}{H H':Hp}{l i:Nat}{xs:List AV}{o:Obj}(x:EH ρ H l xs i o)(p:ρ<+:aV)(t:gW H l H'):EH aV H' l xs i o:=by
 cases x with
 |list a h ha c d=>exact .list a (t.1.trans h) (iu p ha) c d
 |dict a kvs ep h e ha c d=>exact .dict a kvs ep (t.1.trans h) e (iu p ha) c d
 |vals a q kvs ep h hd e ha c d=>exact .vals a q kvs ep (t.1.trans h) ((t.2 q h).trans hd) e (iu p ha) c d
 |pX lo hi h e d=>exact .pX lo hi (t.1.trans h) e d
theorem bf.small(n:bf C ρ H s){l:Nat}{o:AO}(hl:H[l]? =some o):qo.small o:=n.addr hl|>.elim fun a ha=>(n.at hl ha).elim fun _ h=>h.2.1
theorem zL(n:bf C ρ H s){l:Nat}{lo hi:Int}(hl:H[l]? =some (.pX lo hi)):Builtin.Range.small lo hi 1=true∧Builtin.Range.rangeSize lo hi 1=((hi -lo).toNat:Int):=by
 obtain⟨h1,h2,h3,h4⟩: -1000000<lo∧lo<1000000∧ -1000000<hi∧hi<1000000:=n.small hl;refine⟨small_one (by lia) (by lia) (by lia) (by lia),?_⟩;rw[rangeSize_one]
 split<;>lia
variable{l i:Nat}{xs:List AV}{x:AV}{I:ah}{o:Obj}{E:VQ Value}
theorem nF{val:Value}{Q:VQ Value}(n:bf C ρ H s)(hv:VR ρ (.loc l) val)(w:Wk H l xs)
  (h:∀o s',bf (C.aM ((s.heap.objs.size,o)::C.X)) ρ H s'→Go ρ ρ s s'→EH ρ H l xs 0 o→Q (.ref s.heap.objs.size) s'):wpAny (model PG C.w) A (pyIter val) Q E s:=VR.eF hv fun a ha=>by
 cases w with
 |list hl=>exact n.list hl ha fun vs k ho sm nZ=>wpAny_pyIter_list (di ho) (h _ _ (n.yz rfl rfl rfl) (.of dz rfl rfl) (.list a hl ha rfl rfl))
 |dict kvs ep hl e=>exact n.dictAt hl ha fun ps Mr hp _=>wpAny_pyIter_dict (n.o7 ha) Mr (h _ _ (n.yz rfl rfl rfl) (.of dz rfl rfl) (.dict a kvs ep hl e ha rfl (by refine aa hp.length ?_;rfl)))
 |vals d kvs ep hl hd e=>
  obtain⟨ob,ho,sm,ad,Mr,rfl⟩:=n.at hl ha;exact n.dictAt hd Mr fun ps adh hp _=>wpAny_pyIter_values ⟨_,ho,rfl,rfl⟩ adh (h _ _ (n.yz rfl rfl rfl) (.of dz rfl rfl) (.vals ad d kvs ep hl hd e Mr rfl (by refine aa hp.length ?_;rfl)))
 |pX lo hi hl e=>
  obtain⟨ob,ho,sm,t1,t2,t3,rfl⟩:=n.at hl ha;exact wpAny_pyIter_range ho (zL n hl).1 (h _ _ (n.yz rfl rfl rfl) (.of dz rfl rfl) (.pX lo hi hl e (by refine aa ((zL n hl).2) ?_;simp)))
theorem jr{a:ah}{h h':Heap}(hs:Heap.SameBut a h h'):Rest (fun b=>b=a) h h':=fun b _ hb e=>(hs.2 b hb).trans e
theorem GX{α β:Type}{f:α→β}{xs:List α}{i:Nat}{x:β}(h:(xs.map f)[i]? =some x):∃a,xs[i]? =some a∧f a=x:=by rw[qh]at h;exact uB.mp h
theorem zM{Q:VQ (Option Value)}(n:bf C ρ H s)(hI:(I,o)∈C.X)(it:EH ρ H l xs i o)(hx:xs[i]? =some x)
  (h:∀o' s' u,bf (C.aM (putN I o' C.X)) ρ H s'→Go ρ ρ s s'→EH ρ H l xs (i+1) o'→VR ρ x u→Q (some u) s'):wpAny (model PG C.w) A (pyNext (.ref I)) Q E s:=by
 have pZ:=n.extra hI;cases it with
 |list a hl ha c d=>
  exact n.list hl ha fun vs k ho sm nZ=>(nZ.GU hx).elim fun u hu=>wpAny_pyNext_list_item (i:=i) ⟨o,pZ,c,d⟩ (di ho) hu.1 fun h' Aj IJ=>by
   refine kZ (Aj) fun o' e1 e2 e3=>?_;exact h o' {s with heap:=h'} u (n.yC (s':={s with heap:=h'}) hI (jr IJ) e1 rfl) (.of dz rfl rfl) (.list a hl ha e2 e3) hu.2
 |dict a kvs ep hl e ha c d=>
  exact n.dictAt hl ha fun ps Mr hp _=>by
   subst e;refine bE (GX hx) fun kv hkv fF=>?_;subst fF;obtain⟨⟨pk,pv⟩,hpi,hpr⟩:=hp.get hkv;refine wpAny_pyNext_dict_item (i:=i) ⟨o,pZ,c,by exact ez hp.length d⟩ Mr hpi fun key h' vV Aj IJ=>?_;refine kZ (Aj) fun o' e1 e2 e3=>?_;exact h o' {s with heap:=h'} key (n.yC (s':={s with heap:=h'}) hI (jr IJ) e1 rfl) (.of dz rfl rfl) (.dict a kvs ep hl rfl ha e2 (by exact aa hp.length e3)) (by exact aa (show kv.1=pk from hpr.1) (Bw vV))
 |vals a q kvs ep hl hd e ha c d=>
  exact n.dictAt hd ha fun ps Mr hp _=>by
   subst e;refine bE (GX hx) fun kv hkv fF=>?_;subst fF;obtain⟨⟨pk,pv⟩,hpi,hpr⟩:=hp.get hkv;refine wpAny_pyNext_values_item (i:=i) ⟨o,pZ,c,by exact ez hp.length d⟩ Mr hpi fun h' Aj IJ=>?_;refine kZ (Aj) fun o' e1 e2 e3=>?_;exact h o' {s with heap:=h'} pv (n.yC (s':={s with heap:=h'}) hI (jr IJ) e1 rfl) (.of dz rfl rfl) (.vals a q kvs ep hl hd rfl ha e2 (by exact aa hp.length e3)) hpr.2
 |pX lo hi hl e d=>
  subst e d;refine bE (GX hx) fun j hj fF=>?_;subst fF;refine eY (fU.mp hj) fun h1 h2=>?_;rw[Oq]at h1;rw[List.getElem_range]at h2;subst h2;refine wpAny_pyNext_range_item pZ (by lia) fun h' Aj IJ=>?_;haveI e1:lo+((i+1:Nat):Int)*1=lo+(i:Int)*1+1:=by push_cast;lia
  have e2:((hi -lo).toNat:Int) -((i+1:Nat):Int)=((hi -lo).toNat:Int) -(i:Int) -1:=by push_cast;lia
  exact h _ {s with heap:=h',toks:=s.toks+1} (.int (lo+(i:Int)*1) s.toks) (n.yC (s':={s with heap:=h',toks:=s.toks+1}) hI (jr IJ) Aj rfl) (.of dz rfl rfl) (.pX lo hi hl rfl (by(refine aa e1 (aa e2 ?_);with_reducible rfl))) ⟨_,by rw[Int.mul_one]⟩
theorem xA{Q:VQ (Option Value)}(hh:A.handled=none)(n:bf C ρ H s)(hI:(I,o)∈C.X)(it:EH ρ H l xs i o)(hx:xs.length=i)
  (h:∀s',bf (C.aM (C.X.filter fun p=>decide (p.1≠I))) ρ H s'→s'.os=s.os→s.gens.size≤s'.gens.size→Q none s'):wpAny (model PG C.w) A (pyNext (.ref I)) Q E s:=by
 have pZ:=n.extra hI;have fin:∀h',Heap.ExtBut I s.heap h'→Q none {s with heap:=h'}:=fun h' he=>by
  refine h _ ?_ rfl (Nat.le_refl _);obtain⟨N,S,D,b⟩:=n;haveI DD:=S.nw _ (D.ext _ hI);refine⟨N.filter fun p=>decide (p.1≠I),⟨⟨?_,fun b x q=>he b x (fun z=>?_) (S.fr.keep b x q),S.fr.above⟩,fun p hp=>?_,?_,S.big,fun p hp=>S.low p (dG.mp hp).1,
   S.fs.grow (fun b o q hb _ _=>he b o (fun z=>hb _ (D.ext _ hI) z.symm) q) fun p hp=>.inl (dG.mp hp).1⟩,⟨D.len,D.nd,fun l x q=>?_,fun p hp=>?_,fun p hp=>D.sep p (dG.mp hp).1⟩,b⟩
  ·refine CJ (S.fr.ns) fun oL es ep q1 q2=>?_;exact⟨oL,es,ep,he _ _ (dg DD.2.1) q1,q2⟩
  ·have:=DD.2.2;rw[←z]at this;rw[this]at q;cases q
  ·refine iK (dG.mp hp) fun S3 EX=>?_;haveI P:=S.nw p S3;exact⟨he _ _ (by simpa using EX) P.1,P.2⟩
  ·exact OW (O0 _ Ol) S.nd
  ·refine jZ (D.ob l x q) fun b jJ e1 e2 e3=>?_;exact⟨b,jJ,e1,dG.mpr ⟨e2,bN (fun z:b=I=>D.sep _ hI (z▸uy e1))⟩,e3⟩
  ·refine iK (dG.mp hp) fun S3 EX=>?_;exact dG.mpr ⟨D.ext p S3,EX⟩
 cases it with
 |list a hl ha c d=>exact n.list hl ha fun vs k ho sm nZ=>wpAny_pyNext_list_end (i:=i) hh ⟨o,pZ,c,d⟩ (di ho) (by rw[Array.getElem?_eq_none];(refine ez nZ.size (aa hx ?_));exact Nat.le_refl _) fin
 |dict a kvs ep hl e ha c d=>exact n.dictAt hl ha fun ps Mr hp _=>wpAny_pyNext_dict_end (i:=i) hh ⟨o,pZ,c,by exact ez hp.length d⟩ Mr (by rw[zb];rw[←hp.length,←hx,←e,bR];exact Nat.le_refl _) fin
 |vals a q kvs ep hl hd e ha c d=>exact n.dictAt hd ha fun ps Mr hp _=>wpAny_pyNext_values_end (i:=i) hh ⟨o,pZ,c,by exact ez hp.length d⟩ Mr (by rw[zb];rw[←hp.length,←hx,←e,bR];exact Nat.le_refl _) fin
 |pX lo hi hl e d=>
  subst e d;rw[bR,Oq]at hx;exact wpAny_pyNext_range_end hh pZ (by lia) fin
end
noncomputable abbrev wA(v:Option Value):Obj:={cls:=.type "cell",data:=.cell v}
noncomputable def gY(names kd:cK):cK:=names.map fun(n,k)=>if(k==jd&&kd.lookup n==some jA)then(n,jA)else(n,k)
noncomputable def ou(names:cK)(ν:Slots)(tn:Str)(t:Nat):Slots:=(tn,t)::names.filterMap fun(n,k)=>if k==jd then(ν.lookup n).map (n,·)else none
noncomputable def frees(names:cK):List Str:=(names.filter fun x=>x.2==jd).map (·.1)
noncomputable def gy(cells:List (Str×ah)):List Str→List (Str×ah)
 |[]=>[]
 |n::r=>gy cells r++(match cells.lookup n with|some a=>[(n,a)]|none=>[])
theorem PS:gy cells (n::r)=gy cells r++(match cells.lookup n with|some a=>[(n,a)]|none=>[]):=rfl
theorem HU(h:∀n∈frees names,(env.cells.lookup n).isSome=true)(sc:gE)(hs:sc.names=names):closureFor sc env=pure (gy env.cells (frees names)):=by
 unfold closureFor;refine aa hs ?_;haveI key:∀(names:cK)(cs:List (Str×ah)),(∀n∈frees names,(env.cells.lookup n).isSome=true)→
   (forIn names cs (fun(x:Str×NameKind) (cs:List (Str×ah))=>(if x.2==jd then(do let a ←cellOf env x.1;pure (AZ ((x.1,a)::cs)))else pure (AZ cs):Sem (ForInStep (List (Str×ah))))))=pure (gy env.cells (frees names)++cs):=by
  intro names
  induction names with
  |nil=>intro cs _;rfl
  |cons x r ih=>
   intro cs hr;obtain⟨n,k⟩:=x;rw[tL]
   by_cases hk:k=.free
   ·subst hk;haveI hn:(env.cells.lookup n).isSome=true:=hr n (by simp[frees]);refine eY (zk.mp hn) fun a ha=>?_;haveI e1:cellOf env n=pure a:=by unfold cellOf;(refine aa ha ?_;with_reducible rfl)
    have e2:frees ((n,jd)::r)=n::frees r:=by simp[frees]
    refine aa e2 ?_;simp only[beq_self_eq_true,if_true,e1,pure_bind];refine aa (ih _ fun m hm=>hr m (by rw[e2];exact cZ _ hm)) ?_;refine aa (show gy env.cells (n::frees r)=gy env.cells (frees r)++[(n,a)]from by show gy env.cells (frees r)++(match env.cells.lookup n with|some a=>[(n,a)]|none=>[])=_;rw[ha]) ?_
    simp
   ·have e2:frees ((n,k)::r)=frees r:=by simp[frees,hk]
    have hb:(k==jd)=false:=by simpa using hk
    refine aa e2 ?_;simp only[hb,jT,if_false,pure_bind];exact ih cs fun m hm=>hr m (by exact aa e2 hm)
 haveI:=key names [] h;rw[eW]at this;exact aR (fun(x:Sem (List (Str×ah)))=>x>>=fun cs=>pure cs) this
theorem pG:∀{l:List Str}{n:Str}{a:ah},n∈l→cells.lookup n=some a→(gy cells l).lookup n=some a
 |[],_,_,h,_=>by cases h
 |m::r,n,a,h,e=>by
  refine aa PS ?_
  by_cases hr:n∈r
  ·(refine aa wU (aa (pG hr e) ?_));rfl
  ·haveI hm:n=m:=by
    rcases bw.mp h with q|q
    ·exact q
    ·exact absurd q hr
   subst hm;haveI hno:∀(l:List Str),n∉l→(gy cells l).lookup n=none:=by
    intro l
    induction l with
    |nil=>intro _;rfl
    |cons x l ih=>
     intro hx;refine aa PS ?_
     (refine aa wU (aa (ih fun q=>hx (cZ _ q)) ?_))
     haveI lU:(n==x)=false:=by
      refine beq_eq_false_iff_ne.mpr fun q=>hx (by exact aa q cI)
     cases cells.lookup x with
     |none=>rfl
     |some b=>simp[jz,lU]
   (refine aa wU (aa (hno r hr) ?_);refine aa e ?_)
   simp
theorem dU(env:Env)(x:Str):env.kindOf x=env.scope.names.lookup x:=rfl
theorem yN(hk:env.scope.kind=.function)(hn:env.scope.names=kd):(relabel scope env).names=gY scope.names kd:=by
 delta relabel gY;dsimp only;refine wg fun x _=>?_;obtain⟨n,k⟩:=x;dsimp only;rw[dU,hn,hk];simp
theorem uI(h:names.lookup n=some k):(gY names kd).lookup n=some (if(k==jd&&kd.lookup n==some jA)then .cell else k):=by
 delta gY
 induction names with
 |nil=>cases h
 |cons x r ih=>
  obtain⟨m,k'⟩:=x;show List.lookup n ((if(k'==jd&&kd.lookup m==some jA)=true then(m,jA)else(m,k'))::_)=_
  rw[jz]at h;cases hm:n==m with
  |true=>
   rw[hm]at h;cases h;haveI:n=m:=beq_iff_eq.mp hm;subst this
   by_cases c:(k==jd&&kd.lookup n==some jA)=true
   ·(refine aa (aF c) (aa (aF c) ?_);refine aa jz (aa hm ?_);with_reducible rfl)
   ·(refine aa (au c) (aa (au c) ?_);refine aa jz (aa hm ?_);with_reducible rfl)
  |false=>
   rw[hm]at h
   by_cases c:(k'==jd&&kd.lookup m==some jA)=true
   ·(refine aa (aF c) (aa jz ?_);refine aa hm ?_);exact ih h
   ·(refine aa (au c) (aa jz ?_);refine aa hm ?_);exact ih h
noncomputable def bG(names:cK):List Str:=(names.filter fun x=>x.2==jA).map (·.1)
theorem xX:∀{names:cK}(h:Heap)(n:Nat)(acc:List (Str×ah)),bG names=[]→cellsFrom n names acc=acc∧pushCells h names=h:=by
 intro rv
 induction rv with
 |nil=>
  intro _ _ _ _;exact⟨rfl,rfl⟩
 |cons p_ r ih=>
  obtain⟨m,k⟩:=p_;intro h n acc e
  by_cases hk:k=.cell
  ·subst hk;simp[bG]at e
  ·haveI hb:(k==jA)=false:=by simpa using hk
   haveI e':bG r=[]:=by simpa [bG,hk] using e
   unfold cellsFrom pushCells;exact aa hb (ih h n acc e')
theorem KU:∀{names:cK}(h:Heap)(n:Nat)(acc:List (Str×ah)),bG names=[tn]→cellsFrom n names acc=(tn,n)::acc∧pushCells h names=h.push (wA none):=by
 intro rv
 induction rv with
 |nil=>
  intro _ _ _ e;cases e
 |cons p_ r ih=>
  obtain⟨m,k⟩:=p_;intro h n acc e
  by_cases hk:k=.cell
  ·subst hk;haveI e':m=tn∧bG r=[]:=by simpa [bG] using e
   obtain⟨rfl,e'⟩:=e';unfold cellsFrom pushCells;refine iK (xX (h.push (wA none)) (n+1) ((m,n)::acc) e') fun h1 h2=>?_;exact⟨h1,h2⟩
  ·haveI hb:(k==jA)=false:=by simpa using hk
   haveI e':bG r=[tn]:=by simpa [bG,hk] using e
   unfold cellsFrom pushCells;exact aa hb (ih h n acc e')
structure E5(scope:gE)(kd:cK)(SK:List Str):Prop where
 kind:scope.kind=.function
 co:scope.isCoroutine=false
 locals:∀x∈scope.names,x.2=.local→scope.names.lookup x.1=some .local
 free:∀n∈frees scope.names,scope.names.lookup n=some .free∧(kd.lookup n=some .cell∨kd.lookup n=some .free)
 cell:∀n∈bG scope.names,n∈SK
section
variable{C:Cx}{A:aG}{ρ:List ah}{H:Hp}{s s':aB}{env:Env}{kd:cK}{ν:Slots}{lm:LM}
noncomputable abbrev jK(scope:gE)(env:Env)(L:ah)(cells:List (Str×ah)):Env:=
 {scope:=relabel scope env,locals:=L,globals:=env.globals,cells:=cells,qual:=env.qual,func:=none,code:=env.code,frame:=env.frame,builtins:=env.builtins}
theorem vE(ok:fy env kd)(sc:E5 scope kd SK):fy (jK scope env L cells) (gY scope.names kd):=
 ⟨yN ok.fn ok.kd,sc.kind,ok.gl,ok.bu,sc.co⟩
theorem UE{E:Value→aB→Prop}(n:bf C ρ H s)(hc:bG scope.names=[])
  (h:∀s',bf (C.aM ((s.heap.objs.size,dictOf [] 0)::C.X)) ρ H s'→Go ρ ρ s s'→Q {scope:=scope,locals:=s.heap.objs.size,globals:=env.globals,cells:=cl,qual:=env.qual,func:=none,code:=env.code,frame:=env.frame,builtins:=env.builtins} s'):
  wpAny (model PG C.w) A (newFunctionEnv scope env.globals cl [] env.qual none .none (some env)) Q E s:=by
 dsimp only[newFunctionEnv,OO,if_true];refine af (Ay ?_);refine af (wpAny_layCells _ (fun name kind cells=>by cases hkc:kind==jA<;>simp[hkc]) _ _ _ _ ?_)
 refine iK (xX (names:=scope.names) (s.heap.push {cls:=.type "dict",data:=.dict #[]}) (s.heap.push {cls:=.type "dict",data:=.dict #[]}).objs.size cl hc) fun e1 e2=>?_
 (refine aa e1 (aa e2 ?_))
 refine af (aE (aE ?_));exact h _ (n.yz rfl rfl rfl) (.of dz rfl rfl)
theorem UG{E:Value→aB→Prop}(n:bf C ρ H s)(hc:bG scope.names=[tn])
  (h:∀s',bf (C.aM ((s.heap.objs.size+1,wA none)::(s.heap.objs.size,dictOf [] 0)::C.X)) ρ H s'→Go ρ ρ s s'→
   Q {scope:=scope,locals:=s.heap.objs.size,globals:=env.globals,cells:=(tn,s.heap.objs.size+1)::cl,qual:=env.qual,func:=none,code:=env.code,frame:=env.frame,builtins:=env.builtins} s'):
  wpAny (model PG C.w) A (newFunctionEnv scope env.globals cl [] env.qual none .none (some env)) Q E s:=by
 dsimp only[newFunctionEnv,OO,if_true];refine af (Ay ?_);refine af (wpAny_layCells _ (fun name kind cells=>by cases hkc:kind==jA<;>simp[hkc]) _ _ _ _ ?_)
 refine iK (KU (names:=scope.names) (tn:=tn) (s.heap.push {cls:=.type "dict",data:=.dict #[]}) (s.heap.push {cls:=.type "dict",data:=.dict #[]}).objs.size cl hc) fun e1 e2=>?_
 (refine aa (show({s with heap:=s.heap.push {cls:=.type "dict",data:=.dict #[]}}:aB).heap.objs.size=(s.heap.push {cls:=.type "dict",data:=.dict #[]}).objs.size from rfl) (aa e1 ?_);refine aa e2 ?_)
 refine af (aE (aE ?_));haveI n₁:bf (C.aM ((s.heap.objs.size,dictOf [] 0)::C.X)) ρ H {s with heap:=s.heap.push {cls:=.type "dict",data:=.dict #[]}}:=n.yz rfl rfl rfl;haveI dX:=n₁.yz (s':={s with heap:=(s.heap.push {cls:=.type "dict",data:=.dict #[]}).push (wA none)}) (ob:=wA none) rfl rfl rfl;haveI e3:(s.heap.push {cls:=.type "dict",data:=.dict #[]}).objs.size=s.heap.objs.size+1:=Heap.size_push ..;rw[show({s with heap:=s.heap.push {cls:=.type "dict",data:=.dict #[]}}:aB).heap.objs.size=s.heap.objs.size+1 from e3]at dX;exact aa e3 (h _ dX (.of dz rfl rfl))
end
section
variable{C:Cx}{A:aG}{ρ:List ah}{H:Hp}{s s':aB}{env:Env}{kd:cK}{ν:Slots}{lm:LM}
theorem bf.fresh(n:bf C ρ H s):∀p∈C.X,p.1≠s.heap.objs.size:=fun p hp e=>by
 obtain⟨N,S,D,b⟩:=n;exact S.iG (e▸dF (f:=je) (D.ext p hp))
noncomputable abbrev LX(T:Led)(D I:ah)(oD oI:Obj)(X:Led):Led:=T++(D,oD)::(I,oI)::X
structure Apart(T:Led)(D I:ah)(X:Led):Prop where
 tt:(T.map (·.1)).Nodup
 tD:∀p∈T,p.1≠D
 tI:∀p∈T,p.1≠I
 DI:D≠I
 tX:∀p∈T,∀q∈X,q.1≠p.1
 DX:∀q∈X,q.1≠D
 IX:∀q∈X,q.1≠I
theorem bf.reX(n:bf (C.aM (putN a o' X₀)) ρ H s)(h:∀p∈X,p=(a,o')∧(∃o,(a,o)∈X₀)∨p∈X₀∧p.1≠a):bf (C.aM X) ρ H s:=
 (n.qp (X:=X) fun p hp=>by
  rcases h p hp with⟨rfl,o,ho⟩|⟨h1,h2⟩
  ·exact eL ho
  ·exact cH (o:=p.2) h1 h2)
theorem bf.adi(ap:Apart T D I X)(n:bf (C.aM (putN I o' (LX T D I oD oI X))) ρ H s):bf (C.aM (LX T D I oD o' X)) ρ H s:=
 n.reX fun p hp=>by
  simp only[LX,dc,bw]at hp ⊢;rcases hp with hp|rfl|rfl|hp
  ·exact .inr ⟨.inl hp,ap.tI p hp⟩
  ·exact .inr ⟨.inr (.inl rfl),ap.DI⟩
  ·exact .inl ⟨rfl,oI,.inr (.inr (.inl rfl))⟩
  ·exact .inr ⟨.inr (.inr (.inr hp)),ap.IX p hp⟩
theorem bf.putD(ap:Apart T D I X)(n:bf (C.aM (putN D o' (LX T D I oD oI X))) ρ H s):bf (C.aM (LX T D I o' oI X)) ρ H s:=
 n.reX fun p hp=>by
  simp only[LX,dc,bw]at hp ⊢;rcases hp with hp|rfl|rfl|hp
  ·exact .inr ⟨.inl hp,ap.tD p hp⟩
  ·exact .inl ⟨rfl,oD,.inr (.inl rfl)⟩
  ·exact .inr ⟨.inr (.inr (.inl rfl)),ap.DI.symm⟩
  ·exact .inr ⟨.inr (.inr (.inr hp)),ap.DX p hp⟩
theorem bf.abX(ap:Apart T D I X)(ha:(a,o)∈T)(hT:∀p∈T',p=(a,o')∨p∈T∧p.1≠a)(n:bf (C.aM (putN a o' (LX T D I oD oI X))) ρ H s):bf (C.aM (LX T' D I oD oI X)) ρ H s:=
 n.reX fun p hp=>by
  simp only[LX,dc,bw]at hp ⊢;rcases hp with hp|rfl|rfl|hp
  ·rcases hT p hp with rfl|⟨h1,h2⟩
   ·exact .inl ⟨rfl,o,.inl ha⟩
   ·exact .inr ⟨.inl h1,h2⟩
  ·exact .inr ⟨.inr (.inl rfl),fun q=>ap.tD _ ha q.symm⟩
  ·exact .inr ⟨.inr (.inr (.inl rfl)),fun q=>ap.tI _ ha q.symm⟩
  ·exact .inr ⟨.inr (.inr (.inr hp)),ap.tX _ ha p hp⟩
structure TSt(env:Env)(T:Led)(oL:Obj)(es:Array gf)(ep:Nat):Prop where
 mem:(env.locals,oL)∈T
 data:oL.data=.dict es ep
 keys:kB es
 fn:env.scope.kind=.function
theorem M6{h:Heap}(ho:h.get? a=some o)(hd:o.data=.dict es ep)(hk:kB es):h.Ns a (nsFind es):=⟨o,es,ep,ho,hd,hk,fun _=>rfl⟩
theorem kI(x:Str)(p:Pos)(v:Value):assign (.Name x p) env v=(do PySem.standAt p;bindName env x v):=rfl
theorem wp_bindName{E:Value→aB→Prop}(h:wpAny M A (storeName env x v) Q E s):wpAny M A (bindName env x v) Q E s:=wpAny_bindName h
theorem sq{es:Array gf}{p:Pos}{v:Value}{Q:Unit→aB→Prop}{E:Value→aB→Prop}(ap:Apart T D I X)(n:bf (C.aM (LX T D I oD oI X)) ρ H s)(t:TSt env T oL es ep)(hk:env.kindOf x=some .local)
  (h:∀MD vm yp s',MD.data=.dict vm yp→kB vm→(∀y,nsFind vm y=if y=x then some v else nsFind es y)→Go ρ ρ s s'→
   (∀T',(∀p∈T',p=(env.locals,MD)∨p∈T∧p.1≠env.locals)→bf (C.aM (LX T' D I oD oI X)) ρ H s')→Q () s'):wpAny (model PG C.w) A (assign (.Name x p) env v) Q E s:=by
 haveI hm:(env.locals,oL)∈LX T D I oD oI X:=dD _ t.mem;rw[kI];refine af (gz (wp_bindName (Fp hk (M6 (n.extra hm) t.data t.keys) (fun h' hn hs=>?_) (by refine aa t.fn ?_;rfl))));refine acY (hn) fun MD vm yp g1 g2 g3 g4=>?_;refine h MD vm yp {s with heap:=h',toks:=s.toks+1} g2 g3 g4 (.of dz rfl rfl) fun T' hT=>?_;exact(n.yC (s':={s with heap:=h',toks:=s.toks+1}) hm (jr hs) g1 rfl).abX ap t.mem hT
theorem Eh{v:Value}{Q:Unit→aB→Prop}{E:Value→aB→Prop}(ap:Apart T D I X)(n:bf (C.aM (LX T D I oD oI X)) ρ H s)(hm:(c,oc)∈T)(hd:oc.data=.cell abY)(hk:env.kindOf x=some .cell)(hf:env.scope.kind=.function)
  (hc:env.cells.lookup x=some c)
  (h:∀V6 s',V6.data=.cell (some v)→Go ρ ρ s s'→(∀T',(∀p∈T',p=(c,V6)∨p∈T∧p.1≠c)→bf (C.aM (LX T' D I oD oI X)) ρ H s')→Q () s'):wpAny (model PG C.w) A (assign (.Name x p) env v) Q E s:=by
 haveI hm':(c,oc)∈LX T D I oD oI X:=dD _ hm;rw[kI];refine af (gz (wp_bindName (NV hf hk hc ⟨oc,n.extra hm',hd⟩ fun h' hn hs=>?_)));refine bE (hn) fun V6 g1 g2=>?_;refine h V6 {s with heap:=h'} g2 (.of dz rfl rfl) fun T' hT=>?_;exact(n.yC (s':={s with heap:=h'}) hm' (jr hs) g1 rfl).abX ap hm hT
def sZ(ρ:List ah)(ys:List AV)(o:Obj):Prop:=∃ws k,o=⟨.type "list",none,.seq ws k, #[]⟩∧bh (VR ρ) ys ws.toList∧ys.length<bQ
theorem sZ.mono(h:sZ ρ ys o)(p:ρ<+:aV):sZ aV ys o:=by
 refine jZ (h) fun ws k fF h1 h2=>?_;subst fF;exact⟨ws,k,rfl,fE (fun _ _=>VR.mono p) h1,h2⟩
theorem Dp{Q:Value→aB→Prop}{E:Value→aB→Prop}(B:qS C.w C.g)(ap:Apart T D I X)(n:bf (C.aM (LX T D I oD oI X)) ρ H s)(hD:sZ ρ ys oD)(hy:VR ρ y v)(hz:(ys++[y]).length<bQ)
  (h:∀uQ s',sZ ρ (ys++[y]) uQ→Go ρ ρ s s'→bf (C.aM (LX T D I uQ oI X)) ρ H s'→Q .none s'):wpAny (model PG C.w) A (call (.builtin "list.append") [.ref D,v]) Q E s:=by
 refine jZ (hD) fun ws k fF h1 h2=>?_;subst fF;haveI hm:(D,(⟨.type "list",none,.seq ws k, #[]⟩:Obj))∈LX T D I ⟨.type "list",none,.seq ws k, #[]⟩ oI X:=cU _ (.head _);haveI so:bY s.heap D (.type "list") none ws k:=⟨n.extra hm,.inl rfl⟩;haveI hlen:ws.size<bQ:=by
  exact h1.size▸h2
 refine iw zG (n.jl B).X so.ob (jq C.w so.cls) (PySem.F.args_list_append_2 _ _) (uH so hlen ?_);refine eY (fu (c:=.type "list") (d:=none) (vs:=ws) (n:=k) (·.push v)) fun k' hk=>?_;refine h ⟨.type "list",none,.seq (ws.push v) k', #[]⟩ _ ⟨_,_,rfl,by refine aa Array.toList_push ?_;exact h1.append (.cons hy .nil),hz⟩ (.of dz rfl rfl) ?_;refine(n.yC (s':={s with heap:=s.heap.update D (bK (·.push v))}) hm (jr (Heap.SameBut.update ..)) ?_ rfl).putD ap;haveI:=Heap.get?_update_self (bK (·.push v)) so.at_ (by refine aa hk ?_;rfl);rw[hk]at this;exact this
end
section
variable{C:Cx}{A:aG}{ρ:List ah}{H:Hp}{s s':aB}{env cu:Env}{kd:cK}{ν:Slots}{lm:LM}
inductive SM(cu:Env)(tn:Str):Led→Prop
 |loc (oL:Obj) (es:Array gf) (ep:Nat) (hk:cu.kindOf tn=some .local) (hd:oL.data=.dict es ep) (hs:kB es):SM cu tn [(cu.locals,oL)]
 |cell (c:ah) (oc:Obj) (v:Option Value) (oL:Obj) (es:Array gf) (ep:Nat) (hk:cu.kindOf tn=some .cell) (hc:cu.cells.lookup tn=some c) (lU:c≠cu.locals) (hv:oc.data=.cell v) (hd:oL.data=.dict es ep) (hs:kB es):SM cu tn [(c,oc),(cu.locals,oL)]
theorem Apart.BA(ap:Apart T D I X)(e:T'.map (·.1)=T.map (·.1)):Apart T' D I X:=by
 have key:∀p∈T',∃q∈T,q.1=p.1:=fun p hp=>by
  haveI:p.1∈T'.map (·.1):=dF hp;rw[e]at this;refine bE (bX.mp this) fun q h1 h2=>?_;exact⟨q,h1,h2⟩
 exact⟨e▸ap.tt,fun p hp=>by obtain⟨q,h1,h2⟩:=key p hp;refine ez h2 ?_;exact ap.tD q h1,fun p hp=>by obtain⟨q,h1,h2⟩:=key p hp;refine ez h2 ?_;exact ap.tI q h1,ap.DI,
  fun p hp r hr=>by obtain⟨q,h1,h2⟩:=key p hp;refine ez h2 ?_;exact ap.tX q h1 r hr,ap.DX,ap.IX⟩
theorem QX{Q:Unit→aB→Prop}{E:Value→aB→Prop}(hf:cu.scope.kind=.function)(ap:Apart T D I X)(n:bf (C.aM (LX T D I oD oI X)) ρ H s)(t:SM cu tn T)
  (h:∀T' s',SM cu tn T'→T'.map (·.1)=T.map (·.1)→Go ρ ρ s s'→bf (C.aM (LX T' D I oD oI X)) ρ H s'→(∀(C':Cx),(∀p∈T',p∈C'.X)→Rd C' cu tn v)→Q () s'):wpAny (model PG C.w) A (assign (.Name tn tp) cu v) Q E s:=by
 cases t with
 |loc oL es ep hk hd hs=>
  refine sq ap n ⟨.head _,hd,hs,hf⟩ hk fun MD vm yp s' h1 h2 h3 sd hn=>?_;refine h [(cu.locals,MD)] s' (.loc MD vm yp hk h1 h2) rfl sd (hn _ fun p hp=>.inl (bO.mp hp)) fun C' V8=>?_;exact .own MD vm yp hk (V8 _ (.head _)) h1 h2 (by rw[h3,aF rfl])
 |cell c oc abY oL es ep hk hc lU hv hd hs=>
  refine Eh ap n (.head _) hv hk hf hc fun V6 s' h1 sd hn=>?_;refine h [(c,V6),(cu.locals,oL)] s' (.cell c V6 (some v) oL es ep hk hc lU h1 hd hs) rfl sd (hn _ fun p hp=>?_) fun C' V8=>?_
  ·rcases bw.mp hp with rfl|hp
   ·exact .inl rfl
   ·exact aa (bO.mp hp) (.inr ⟨.tail _ (.head _),lU.symm⟩)
  ·exact .cell c V6 (.inl hk) hc (V8 _ (.head _)) h1
end
inductive Mi(F:AV→Hp→List AV→Hp→Prop)(K:Hp→Prop):List AV→Hp→List AV→Hp→Prop
 |nil {H:Hp}:Mi F K [] H [] H
 |cons {x:AV} {xs a r:List AV} {H H1 H2:Hp} (h:F x H a H1) (k:K H1) (q:Mi F K xs H1 r H2):Mi F K (x::xs) H (a++r) H2
noncomputable abbrev F0:VQ Value:=fun _ _=>False
section
variable{C:Cx}{A:aG}{ρ:List ah}{H:Hp}{s s':aB}{cu:Env}
theorem zN
  (ht:compTurn (.ListComp qq gens scope pos) k it acc cu=(PySem.standAt p>>=fun _=>pyNext it>>=fun r=>match r with
   |none=>pure (.done .next)
   |some v=>letOwnedTupleGo JN it v>>=fun _=>assign JN cu v>>=fun _=>body)) (hl:∀v,letOwnedTupleGo JN it v=pure ())
  (h:wpAny (model PG w) A (pyNext it) (fun r s₁=>match r with
   |none=>R (.ok .next) s₁
   |some v=>wpAny (model PG w) A (assign JN cu v) (fun _ bM=>wpAny (model PG w) A body (fun f fH=>f=.again (.compLoop (.ListComp qq gens scope pos) k it acc cu)∧codeAny (model PG w) A (.compLoop (.ListComp qq gens scope pos) k it acc cu) R fH) F0 bM) F0 s₁) F0 s):
  codeAny (model PG w) A (.compLoop (.ListComp qq gens scope pos) k it acc cu) R s:=by
 have no:∀{x:Value}{s:aB},F0 x s→notedBy (model PG w) A cu (fun e s'=>R (.error e) s') x s:=fun h=>h.elim;refine Au ?_;show wpAny _ A ((compTurn (.ListComp qq gens scope pos) k it acc cu).onRaise (fun x=>do noteFrame x cu;theTreesLotGoes x)) _ _ s
 refine wpAny_noted ?_;refine aa ht (af (gz (af (eV h (fun r s₁ iL=>?_) fun _ _ h'=>no h'))));cases r with
 |none=>exact aE iL
 |some v=>exact af (mD (hl v) (af (eV iL (fun _ bM qV=>eV qV (fun f fH h=>h.1▸⟨rfl,h.2⟩) fun _ _ h'=>no h') fun _ _ h'=>no h')))
theorem tZ{D I:ah}{body:Sem Fin}{R:kC→aB→Prop}{l:Nat}{xs:List AV}{H₀:Hp}{F:AV→Hp→List AV→Hp→Prop}{TI:Led→Prop}{TA:Value→Led→Prop}(hh:A.handled=none)(w:Wk H₀ l xs)
  (ht:compTurn (.ListComp qq gens scope pos) k (.ref I) (.ref D) cu=(PySem.standAt p>>=fun _=>pyNext (.ref I)>>=fun r=>match r with
   |none=>pure (.done .next)
   |some v=>letOwnedTupleGo JN (.ref I) v>>=fun _=>assign JN cu v>>=fun _=>body)) (hl:∀v,letOwnedTupleGo JN (.ref I) v=pure ())
  (asg:∀{T oD oI s aD jL v}{Q:VQ Unit},TI T→Apart T D I C.X→bf (C.aM (LX T D I oD oI C.X)) aD jL s→(∀T' s',TA v T'→T'.map (·.1)=T.map (·.1)→Go aD aD s s'→bf (C.aM (LX T' D I oD oI C.X)) aD jL s'→Q () s')→wpAny (model PG C.w) A (assign JN cu v) Q F0 s)
  (bd:∀{x jL a uW T oD oI s aD u ys}{Q:VQ Fin},F x jL a uW→TA u T→VR aD x u→ρ<+:aD→Apart T D I C.X→bf (C.aM (LX T D I oD oI C.X)) aD jL s→sZ aD ys oD→(ys++a).length<bQ→(∀aV T' uQ s',Go aD aV s s'→TI T'→T'.map (·.1)=T.map (·.1)→bf (C.aM (LX T' D I uQ oI C.X)) aV uW s'→sZ aV (ys++a) uQ→Q (.again (.compLoop (.ListComp qq gens scope pos) k (.ref I) (.ref D) cu)) s')→wpAny (model PG C.w) A body Q F0 s)
  {Ab:List AV} {jL H':Hp} {zs:List AV} (m:Mi F (gW H₀ l) Ab jL zs H'):
  ∀{i:Nat}{aD:List ah}{s₁:aB}{T:Led}{oD oI:Obj}{ys:List AV},xs.drop i=Ab→i≤xs.length→(ys++zs).length<bQ→ρ<+:aD→gW H₀ l jL→Apart T D I C.X→TI T→
   bf (C.aM (LX T D I oD oI C.X)) aD jL s₁→sZ aD ys oD→EH aD jL l xs i oI→
   (∀aV T' uQ s',Go aD aV s₁ s'→TI T'→T'.map (·.1)=T.map (·.1)→bf (C.aM (T'++(D,uQ)::C.X)) aV H' s'→sZ aV (ys++zs) uQ→R (.ok .next) s')→
   codeAny (model PG C.w) A (.compLoop (.ListComp qq gens scope pos) k (.ref I) (.ref D) cu) R s₁:=by
 haveI hI:∀{T:Led}{oD oI:Obj},(I,oI)∈LX T D I oD oI C.X:=cU _ (.tail _ (.head _))
 induction m with
 |nil=>
  intro i aD s₁ T oD oI ys hd hle hz pr st ap ti n hD it hR;refine zN ht hl ?_;refine xA (C:=C.aM (LX T D I oD oI C.X)) hh n hI it (Nat.le_antisymm (FW.mp hd) hle) fun s' n' o g=>?_;refine hR aD T oD s' ⟨dz,o,g⟩ ti rfl (n'.qp fun q hq=>?_) ((eW ys).symm▸hD);rcases dc.mp hq with h|h
  ·exact dG.mpr ⟨dD _ h,bN (ap.tI q h)⟩
  ·rcases bw.mp h with rfl|h
   ·exact dG.mpr ⟨cU _ (.head _),bN ap.DI⟩
   ·exact dG.mpr ⟨cU _ (.tail _ (.tail _ h)),bN (ap.IX q h)⟩
 | @cons x Ab a r jL uW aeD hf hk _ ih=>
  intro i aD s₁ T oD oI ys hd hle hz pr st ap ti n hD it hR;have hix:xs[i]? =some x:=by
   haveI:=aR (fun l=>l[0]?) hd
   simpa using this
  haveI Xd:xs.drop (i+1)=Ab:=by
   (refine ez tM (aa hd ?_));rfl
  rw[←gQ]at hz hR;refine zN ht hl ?_;refine zM (C:=C.aM (LX T D I oD oI C.X)) n hI it hix fun qP bM u dX ja it₂ hu=>?_;refine asg ti ap (dX.adi ap) fun T' fH ta sI j3 jx=>?_;haveI yq:(ys++a).length<bQ:=by rw[bU]at hz;exact Nat.lt_of_le_of_lt (Nat.le_add_right _ _) hz
  refine bd hf ta hu pr (ap.BA sI) jx hD yq fun iF aeE aeu iz gK aas aat s6 aau=>⟨rfl,?_⟩;have abZ:=aat.trans sI;exact ih Xd (fU.mp hix).1 hz (pr.trans gK.p) hk (ap.BA abZ) aas s6 aau (it₂.to gK.p ⟨hk.1.trans st.1.symm,fun d h=>(hk.2 d (st.1.symm.trans h)).trans (st.2 d (st.1.symm.trans h)).symm⟩) fun aV T'' uQ s' g' ti' adj=>
   hR aV T'' uQ s' ((ja.trans j3).trans (gK.trans g')) ti' (adj.trans abZ)
end
section
variable{C:Cx}{A:aG}{ρ:List ah}{H:Hp}{s s':aB}{env cu:Env}{kd:cK}{ν:Slots}{lm:LM}
def CellsOk(env:Env)(kd:cK):Prop:=∀n,(kd.lookup n=some .cell∨kd.lookup n=some .free)→(env.cells.lookup n).isSome=true
theorem zO{E:VQ Value}(n:bf C ρ H s)(hI:(I,o)∈C.X)(it:EH ρ H l xs i o)(h:Q (.ref I) s):wpAny (model PG C.w) A (pyIter (.ref I)) Q E s:=by
 have pZ:=n.extra hI;cases it with
 |list a hl ha hc hd=>exact wpAny_pyIter_listiter (i:=i) ⟨o,pZ,hc,hd⟩ h
 |dict a kvs ep hl e ha hc hd=>exact wpAny_pyIter_keyiter (i:=i) ⟨o,pZ,hc,hd⟩ h
 |vals a q kvs ep hl hq e ha hc hd=>exact wpAny_pyIter_valiter (i:=i) ⟨o,pZ,hc,hd⟩ h
 |pX lo hi hl e d=>subst d;exact wpAny_pyIter_rangeiter pZ h
noncomputable def kF(e:aQ):Bool:=match e with|.Set .. =>false|_=>true
theorem kX(h:kF e=true)(x:Value):foldedSetIterable e env x=pure x:=by
 unfold foldedSetIterable;cases e<;>first|rfl|cases h
theorem LR.inner(l:LR C env ν ρ lm)(ok:fy env kd)(sc:E5 scope kd SK)
  (hcl:cl=gy env.cells (frees scope.names)) (XY:∀n∈frees scope.names,own.lookup n=none) (om:∀n i,(ou scope.names ν tn t).tail.lookup n=some i→i≠t) (p:ρ<+:aD) (hX:∀q∈C.X,q∈C'.X)
  (hr:Rd C' (jK scope env L (own++cl)) tn u) (hu:VR aD x u):LR C' (jK scope env L (own++cl)) (ou scope.names ν tn t) aD (upd lm t x):=by
 intro y i v hy hv;unfold ou at hy;rw[jz]at hy;cases Xe:y==tn with
 |true=>
  rw[Xe]at hy;cases hy;have:y=tn:=beq_iff_eq.mp Xe;subst this;haveI EI:v=x:=by
   unfold upd at hv
   by_cases ht:t<lm.length
   ·rw[mF ht]at hv;cases hv;rfl
   ·rw[zb (by simpa using Nat.le_of_not_lt ht)]at hv;cases hv
  subst EI;exact⟨u,hr,hu⟩
 |false=>
  rw[Xe]at hy;haveI lU:i≠t:=om y i hy;have EI:lm[i]? =some (some v):=by
   unfold upd at hv;rw[gZ (dg lU)]at hv;exact hv
  have key:∀names:cK,(names.filterMap fun x=>(match x with|(n,k)=>if k==jd then(ν.lookup n).map (n,·)else none)).lookup y=some i→y∈frees names∧ν.lookup y=some i:=by
   intro names
   induction names with
   |nil=>intro h;cases h
   |cons z r ih=>
    intro h;obtain⟨m,k⟩:=z;rw[Om]at h;dsimp only at h
    by_cases hk:k=.free
    ·subst hk;have e2:frees ((m,jd)::r)=m::frees r:=by simp[frees]
     refine aa e2 ?_;cases hm:ν.lookup m with
     |none=>
      rw[hm]at h;dsimp only[beq_self_eq_true,if_true,Option.map_none]at h;refine iK (ih h) fun h1 h2=>?_;exact⟨cZ _ h1,h2⟩
     |some j=>
      rw[hm]at h;simp only[beq_self_eq_true,if_true,OT]at h;rw[jz]at h;cases hym:y==m with
      |true=>
       rw[hym]at h;cases h;haveI:y=m:=beq_iff_eq.mp hym;subst this;exact⟨cI,hm⟩
      |false=>
       rw[hym]at h;refine iK (ih h) fun h1 h2=>?_;exact⟨cZ _ h1,h2⟩
    ·haveI e2:frees ((m,k)::r)=frees r:=by simp[frees,hk]
     refine aa e2 ?_;haveI hb:(k==jd)=false:=by simpa using hk
     simp only[hb,jT,if_false]at h;exact ih h
  refine iK (key scope.names hy) fun M8 aav=>?_;refine bE (l y i v aav EI) fun v' hrd hvr=>?_;refine⟨v',?_,hvr.mono p⟩;refine iK (sc.free y M8) fun f1 f2=>?_;have jV:(jK scope env L (own++cl)).kindOf y=some .cell∨(jK scope env L (own++cl)).kindOf y=some .free:=by
   rw[dU,show(jK scope env L (own++cl)).scope.names=gY scope.names kd from(vE ok sc).kd,uI f1]
   by_cases c:(jd==jd&&kd.lookup y==some jA)=true
   ·exact aa (aF c) (.inl rfl)
   ·exact aa (au c) (.inr rfl)
  have hko:env.kindOf y=kd.lookup y:=by rw[dU,ok.kd]
  cases hrd with
  |fast hk hL hm=>rw[hko]at hk;rcases f2 with f2|f2<;>rw[f2]at hk<;>cases hk
  |own o es ep hk hX hd hs hf=>rw[hko]at hk;rcases f2 with f2|f2<;>rw[f2]at hk<;>cases hk
  |cell c o hk hc aaw hd=>
   refine .cell c o jV ?_ (hX _ aaw) hd;show(own++cl).lookup y=some c
   (refine aa wU (aa (XY y M8) ?_);refine aa hcl (aa (pG M8 hc) ?_))
   rfl
end
section
variable{C:Cx}{A:aG}{ρ:List ah}{H:Hp}{s s':aB}{env cu:Env}{kd:cK}{ν:Slots}{lm:LM}
theorem bf.Wv(n:bf C ρ H s)(hI:(a,o)∈C.X)(hs:Rest (fun b=>b=a) s.heap s'.heap)(hg:s'.gens=s.gens):bf (C.aM (C.X.filter fun p=>decide (p.1≠a))) ρ H s':=by
 obtain⟨N,S,D,b⟩:=n;haveI DD:=S.nw _ (D.ext _ hI);refine⟨N.filter fun p=>decide (p.1≠a),⟨⟨?_,fun b x q=>hs b x (fun z=>?_) (S.fr.keep b x q),S.fr.above⟩,fun p hp=>?_,?_,S.big,fun p hp=>S.low p (dG.mp hp).1,
  S.fs.grow (fun b o q hb _ _=>hs b o (fun z=>hb _ (D.ext _ hI) z.symm) q) fun p hp=>.inl (dG.mp hp).1⟩,⟨D.len,D.nd,fun l x q=>?_,fun p hp=>?_,fun p hp=>D.sep p (dG.mp hp).1⟩,hg▸b⟩
 ·refine CJ (S.fr.ns) fun oL es ep q1 q2=>?_;exact⟨oL,es,ep,hs _ _ (dg DD.2.1) q1,q2⟩
 ·haveI:=DD.2.2;rw[←z]at this;rw[this]at q;cases q
 ·refine iK (dG.mp hp) fun S3 EX=>?_;haveI P:=S.nw p S3;exact⟨hs _ _ (by simpa using EX) P.1,P.2⟩
 ·exact OW (O0 _ Ol) S.nd
 ·refine jZ (D.ob l x q) fun b jJ e1 e2 e3=>?_;exact⟨b,jJ,e1,dG.mpr ⟨e2,bN (fun z:b=a=>D.sep _ hI (z▸uy e1))⟩,e3⟩
 ·refine iK (dG.mp hp) fun S3 EX=>?_;exact dG.mpr ⟨D.ext p S3,EX⟩
theorem QY(h:(gY names kd).lookup n=some k'):∃k,names.lookup n=some k∧k'=(if(k==jd&&kd.lookup n==some jA)then .cell else k):=by
 cases q:names.lookup n with
 |none=>
  exfalso;have:∀l:cK,l.lookup n=none→(gY l kd).lookup n=none:=by
   intro l
   induction l with
   |nil=>intro _;rfl
   |cons z r ih=>
    intro hz;obtain⟨m,k⟩:=z;rw[jz]at hz;show List.lookup n ((if(k==jd&&kd.lookup m==some jA)=true then(m,jA)else(m,k))::_)=_
    cases hm:n==m with
    |true=>rw[hm]at hz;cases hz
    |false=>
     rw[hm]at hz
     by_cases c:(k==jd&&kd.lookup m==some jA)=true
     ·(refine aa (aF c) (aa jz ?_);refine aa hm ?_);exact ih hz
     ·(refine aa (au c) (aa jz ?_);refine aa hm ?_);exact ih hz
  rw[this _ q]at h;cases h
 |some k=>
  rw[uI q]at h;exact⟨k,rfl,(kP h).symm⟩
theorem mem_lookup{l:cK}(h:l.lookup n=some k):(n,k)∈l:=by
 induction l with
 |nil=>cases h
 |cons z r ih=>
  obtain⟨m,k'⟩:=z;rw[jz]at h;cases hm:n==m with
  |true=>rw[hm]at h;cases h;exact aa (show n=m from beq_iff_eq.mp hm) (.head _)
  |false=>rw[hm]at h;exact .tail _ (ih h)
theorem KW(h:names.lookup n=some .free):n∈frees names:=bX.mpr ⟨(n,.free),dG.mpr ⟨mem_lookup h,rfl⟩,rfl⟩
theorem KY(h:names.lookup n=some .cell):n∈bG names:=bX.mpr ⟨(n,.cell),dG.mpr ⟨mem_lookup h,rfl⟩,rfl⟩
theorem HV(cl:CellsOk env kd)(sc:E5 scope kd SK)(ho:∀n∈bG scope.names,(own.lookup n).isSome=true):
  CellsOk (jK scope env L (own++gy env.cells (frees scope.names))) (gY scope.names kd):=by
 intro n hn;show((own++gy env.cells (frees scope.names)).lookup n).isSome=true;refine aa wU ?_;haveI key:∀k',(gY scope.names kd).lookup n=some k'→(k'=.cell∨k'=.free)→n∈frees scope.names∨n∈bG scope.names:=by
  intro k' h hk;refine bE (QY h) fun k h1 h2=>?_;cases k
  ·rw[au (by simp)]at h2;rcases hk with rfl|rfl<;>cases h2
  ·exact .inr (KY h1)
  ·exact .inl (KW h1)
  ·rw[au (by simp)]at h2;rcases hk with rfl|rfl<;>cases h2
  ·rw[au (by simp)]at h2;rcases hk with rfl|rfl<;>cases h2
 haveI:n∈frees scope.names∨n∈bG scope.names:=by
  rcases hn with h|h
  ·exact key _ h (.inl rfl)
  ·exact key _ h (.inr rfl)
 rcases this with h|h
 ·refine iK (sc.free n h) fun _ h2=>?_;refine eY (zk.mp (cl n (by rcases h2 with h2|h2;exact .inl h2;exact .inr h2))) fun a ha=>?_;refine aa (pG h ha) ?_;cases own.lookup n<;>rfl
 ·haveI:=ho n h;refine eY (zk.mp this) fun a ha=>?_;refine aa ha ?_;rfl
end
section
variable{C:Cx}{A:aG}{ρ:List ah}{H H1 H2:Hp}{s s':aB}{env cu:Env}{kd:cK}{ν:Slots}{lm:LM}
theorem XZ(h:a<n):n+1≠a:=by lia
theorem J3{a n:Nat}(h:a<n):n≠a:=by lia
theorem bf.QZ(n:bf C ρ H s):∀p∈C.X,p.1<s.heap.objs.size:=fun _ hp=>Heap.lt_size (n.extra hp)
inductive adk(C:Cx)(ρ:List ah)(H:Hp)(s:aB)(D Cl:ah)(ys:List AV):Prop
 |mk (T:Led) (oD oL:Obj) (es:Array gf) (ep:Nat) (n:bf (C.aM (T++(D,oD)::C.X)) ρ H s) (hT:(Cl,oL)∈T) (hd:oL.data=.dict es ep) (hs:kB es) (hD:sZ ρ ys oD) (h1:Cl≠D) (h2:∀q∈C.X,q.1≠Cl) (h3:∀q∈C.X,q.1≠D)
noncomputable abbrev Ww(elt:aQ)(gens:List FL)(scope:gE)(pos:Pos)(env:Env)(use:Option (Value→Sem Unit)):Sem Value:=
 comprehension (.ListComp elt gens scope pos) scope env (firstIterPos gens pos) (newList []) (firstAsync gens) (firstIter gens env) use
def CW(C:Cx)(A:aG)(ρ:List ah)(env:Env)(H:Hp)(ys:List AV)(H':Hp)(elt:aQ)(gens:List FL)(scope:gE)(pos:Pos):Prop:=
 ∀(use:Option (Value→Sem Unit))(Q E:VQ Value)(s:aB),bf C ρ H s→(∀aV s' D Cl,Go ρ aV s s'→adk C aV H' s' D Cl ys→compPost (model PG C.w) A E use Q (.ref D) Cl (.ok .next) s')→wpAny (model PG C.w) A (Ww elt gens scope pos env use) Q E s
theorem CW.sm(h:CW C A ρ env H ys H1 elt gens scope pos):Sm C A ρ VR H (.loc H1.length) (H1++[.list ys]) (PySem.eval (.ListComp elt gens scope pos) env):=fun s n Q E q=>by
 rw[eval_ListComp];refine h none Q E s n fun aV s' D Cl g e=>?_;obtain⟨T,oD,oL,es,ep,n',hT,hd,hs,hD,h1,h2,h3⟩:=e;refine⟨nsFind es,M6 (n'.extra (dD _ hT)) hd hs,fun h' hsb=>?_⟩;haveI n₁:=n'.Wv (s':={s' with heap:=h'}) (a:=Cl) (o:=oL) (dD _ hT) (jr hsb) rfl;haveI dX:bf (C.aM ((D,oD)::C.X)) aV H1 {s' with heap:=h'}:=n₁.qp fun p hp=>by
  rcases bw.mp hp with rfl|hp
  ·exact dG.mpr ⟨cU _ (.head _),bN h1.symm⟩
  ·exact dG.mpr ⟨cU _ (.tail _ hp),bN (h2 p hp)⟩
 refine jZ (hD) fun ws k fF k1 k2=>?_;subst fF;haveI jx:=dX.take (X:=(D,⟨.type "list",none,.seq ws k, #[]⟩)::C.X) rfl (.head _) (o:=.list ys) ⟨k2,ws,k,rfl,k1⟩;exact q (aV++[D]) _ _ ⟨g.p.trans (fJ ..),g.o,g.g⟩ (jx.qp (X:=C.X) fun p hp=>dG.mpr ⟨.tail _ hp,bN (h3 p hp)⟩) n'.vr
theorem uJ:kB #[]:=fun e he=>absurd he (Array.not_mem_empty e)
theorem Dq{ys xs:List AV}{pos:Pos}{SK:List Str}{tn:Str}(ok:fy env kd)(co:CellsOk env kd)(sc:E5 scope kd SK)(hi:kF oN=true)
  (ht:(bG scope.names=[]∧(gY scope.names kd).lookup tn=some .local)∨(bG scope.names=[tn]∧(gY scope.names kd).lookup tn=some .cell∧tn∉frees scope.names))
  (hIt:Sm C A ρ VR H (.loc l) H1 (PySem.eval oN env)) (w:Wk H1 l xs)
  (lp:∀{aD:List ah}{oI:Obj}{iz:aB}{own:List (Str×ah)}{Cl D I:ah}{T:Led}{R:kC→aB→Prop},ρ<+:aD→(∀m∈frees scope.names,own.lookup m=none)→fy (jK scope env Cl (own++gy env.cells (frees scope.names))) (gY scope.names kd)→CellsOk (jK scope env Cl (own++gy env.cells (frees scope.names))) (gY scope.names kd)→Apart T D I C.X→
   SM (jK scope env Cl (own++gy env.cells (frees scope.names))) tn T→bf (C.aM (LX T D I ⟨.type "list",none,.seq #[] 0, #[]⟩ oI C.X)) aD H1 iz→sZ aD [] ⟨.type "list",none,.seq #[] 0, #[]⟩→EH aD H1 l xs 0 oI→
   (∀aV T' uQ s' oL es ep,Go aD aV iz s'→T'.map (·.1)=T.map (·.1)→(Cl,oL)∈T'→oL.data=.dict es ep→kB es→bf (C.aM (T'++(D,uQ)::C.X)) aV H2 s'→sZ aV ys uQ→R (.ok .next) s')→
   codeAny (model PG C.w) A (.compLoop (.ListComp elt (⟨JN,oN,ifs,0⟩::gs) scope pos) 0 (.ref I) (.ref D) (jK scope env Cl (own++gy env.cells (frees scope.names)))) R iz):
  CW C A ρ env H ys H2 elt (⟨JN,oN,ifs,0⟩::gs) scope pos:=fun use Q E s n adl=>by
 haveI V9:∀m∈frees scope.names,(env.cells.lookup m).isSome=true:=fun m hm=>co m (sc.free m hm).2;refine wpAny_comprehension_free (cl:=gy env.cells (frees scope.names)) (g:=⟨JN,oN,ifs,0⟩) (gs:=gs) rfl (fun x=>kX hi x) (HU V9 scope rfl) sc.kind sc.locals ?_;refine hIt s n _ _ fun aD s₁ val CN n₁ hv=>?_;refine nF n₁ hv w fun oI bM dX ja it₂=>?_;refine wJ ?_ (by decide);haveI fI:=n₁.fresh;have fD:=dX.fresh;have jx:=dX.yz (s':={bM with heap:=bM.heap.push {cls:=.type "list",data:=.seq ([]:List Value).toArray}}) (ob:=⟨.type "list",none,.seq #[] 0, #[]⟩) rfl rfl rfl;haveI fL:=jx.fresh;have core:∀(own:List (Str×ah))(Cl:ah)(T:Led)(iz:aB),(∀m∈frees scope.names,own.lookup m=none)→(∀m∈bG scope.names,(own.lookup m).isSome=true)→
   Apart T bM.heap.objs.size s₁.heap.objs.size C.X→SM (jK scope env Cl (own++gy env.cells (frees scope.names))) tn T→Cl∈T.map (·.1)→
   bf (C.aM (LX T bM.heap.objs.size s₁.heap.objs.size ⟨.type "list",none,.seq #[] 0, #[]⟩ oI C.X)) aD H1 iz→Go aD aD bM iz→
   codeAny (model PG C.w) A (.compStart (.ListComp elt (⟨JN,oN,ifs,0⟩::gs) scope pos) 0 (.ref s₁.heap.objs.size) (.ref bM.heap.objs.size) (jK scope env Cl (own++gy env.cells (frees scope.names))))
    (compPost (model PG C.w) A E use Q (.ref bM.heap.objs.size) Cl) iz:=by
  intro own Cl T iz ho1 Xa ap tok hCl s6 gK;haveI l1:=lp (R:=compPost (model PG C.w) A E use Q (.ref bM.heap.objs.size) Cl) CN.p ho1 (vE (L:=Cl) (cells:=own++gy env.cells (frees scope.names)) ok sc) (HV (L:=Cl) (own:=own) co sc Xa) ap tok s6 ⟨#[],0,rfl,.nil,by decide⟩ it₂ fun aV T' uQ s' oL es ep g' sI hm hd hs n' IK=>by
   have ap':=ap.BA sI;exact adl aV s' _ Cl (CN.trans (ja.trans (gK.trans g'))) ⟨T',uQ,oL,es,ep,n',hm,hd,hs,IK,ap'.tD _ hm,fun q hq=>ap'.tX _ hm q hq,ap'.DX⟩
  exact codeAny_compStart_list l1 (zO (C:=C.aM (LX T bM.heap.objs.size s₁.heap.objs.size ⟨.type "list",none,.seq #[] 0, #[]⟩ oI C.X)) s6 (cU _ (.tail _ (.head _))) it₂ l1)
 have ab0:bM.heap.objs.size≠s₁.heap.objs.size:=fun h=>fD (s₁.heap.objs.size,oI) (.head _) h.symm;haveI lt:=jx.QZ;have ltX:∀q∈C.X,q.1<(bM.heap.push {cls:=.type "list",data:=.seq ([]:List Value).toArray}).objs.size:=fun q hq=>lt q (.tail _ (.tail _ hq));have ltD:=lt (bM.heap.objs.size,⟨.type "list",none,.seq #[] 0, #[]⟩) (.head _);have ltI:=lt (s₁.heap.objs.size,oI) (.tail _ (.head _));rcases ht with⟨hc0,hk⟩|⟨hc1,hk,Xf⟩
 ·refine UE (C:=C.aM ((bM.heap.objs.size,⟨.type "list",none,.seq #[] 0, #[]⟩)::(s₁.heap.objs.size,oI)::C.X)) (env:=env) jx hc0 fun iz s6 gK=>?_;haveI hok:=vE (L:=(bM.heap.push {cls:=.type "list",data:=.seq ([]:List Value).toArray}).objs.size) (cells:=[]++gy env.cells (frees scope.names)) ok sc;refine core [] _ [(_,dictOf [] 0)] iz (fun _ _=>rfl) (fun m hm=>by rw[hc0]at hm;cases hm) ⟨dO.mpr ⟨List.not_mem_nil,.nil⟩,fun p hp=>?_,fun p hp=>?_,ab0,fun p hp q hq=>?_,fun q hq=>fD q (.tail _ hq),fI⟩
   (.loc _ #[] 0 (by rw[dU,hok.kd];exact hk) rfl uJ) (.head _) s6 ((Go.toks aD bM _ _).trans gK)
  ·exact aa (bO.mp hp) (J3 ltD)
  ·exact aa (bO.mp hp) (J3 ltI)
  ·exact aa (bO.mp hp) ((J3 (ltX q hq)).symm)
 ·refine UG (C:=C.aM ((bM.heap.objs.size,⟨.type "list",none,.seq #[] 0, #[]⟩)::(s₁.heap.objs.size,oI)::C.X)) (env:=env) jx hc1 fun iz s6 gK=>?_;have hok:=vE (L:=(bM.heap.push {cls:=.type "list",data:=.seq ([]:List Value).toArray}).objs.size) (cells:=[(tn,(bM.heap.push {cls:=.type "list",data:=.seq ([]:List Value).toArray}).objs.size+1)]++gy env.cells (frees scope.names)) ok sc;have two:∀{P:ah→Prop}{z:ah}{p:ah×Obj},P (z+1)→P z→p∈[(z+1,wA none),(z,dictOf [] 0)]→P p.1:=fun h1 h2 hp=>by
   rcases bw.mp hp with rfl|hp
   ·exact h1
   ·exact aa (bO.mp hp) h2
  refine core [(tn,(bM.heap.push {cls:=.type "list",data:=.seq ([]:List Value).toArray}).objs.size+1)] _ [(_,wA none),(_,dictOf [] 0)] iz (fun m hm=>?_) (fun m hm=>?_) ⟨by simp,fun p hp=>two (P:=fun a=>a≠_) (XZ ltD) (J3 ltD) hp,fun p hp=>two (P:=fun a=>a≠_) (XZ ltI) (J3 ltI) hp,ab0,fun p hp q hq=>two (P:=fun a=>q.1≠a) (XZ (ltX q hq)).symm (J3 (ltX q hq)).symm hp,fun q hq=>fD q (.tail _ hq),fI⟩
   (.cell _ _ none _ #[] 0 (by rw[dU,hok.kd];exact hk) (by simp[jz]) (by simp) rfl rfl uJ) (.tail _ (.head _)) s6 ((Go.toks aD bM _ _).trans gK)
  ·have:(m==tn)=false:=beq_eq_false_iff_ne.mpr fun h=>Xf (h▸hm);simp[jz,this]
  ·rw[hc1,bO]at hm;subst hm;simp[jz]
end
section
variable{C:Cx}{A:aG}{ρ:List ah}{H H1 H2:Hp}{s s':aB}{env cu:Env}{kd:cK}{ν:Slots}{lm:LM}{l:Nat}{xs ys:List AV}
noncomputable abbrev rJ(ifs:List aQ)(env:Env):Sem Bool:=forIn ifs true fun c r=>if r=true then do let ok ←isTrue c env (PySem.eval c env);pure (AZ ok)else pure (AZ r)
structure ab1(scope:gE)(kd:cK)(ν:Slots)(tn:Str)(t:Nat)(oN:aQ):Prop where
 sc:E5 scope kd [tn]
 it:kF oN=true
 JN:(bG scope.names=[]∧(gY scope.names kd).lookup tn=some .local)∨(bG scope.names=[tn]∧(gY scope.names kd).lookup tn=some .cell∧tn∉frees scope.names)
 sl:∀n i,(ou scope.names ν tn t).tail.lookup n=some i→i≠t
inductive Fb(T:AV→Hp→Bool→Hp→Prop)(El:AV→Hp→AV→Hp→Prop)(x:AV)(H:Hp):List AV→Hp→Prop
 |no {H1:Hp} (h:T x H false H1):Fb T El x H [] H1
 |yes {H' H1:Hp} {y:AV} (h:T x H true H') (k:El x H' y H1):Fb T El x H [y] H1
theorem SM.adm{P:Prop}(h:cu.locals=L)(t:SM cu tn T)(k:∀oL es ep,(L,oL)∈T→oL.data=.dict es ep→kB es→P):P:=by
 subst h;cases t with
 |loc oL es ep hk hd hs=>exact k oL es ep (.head _) hd hs
 |cell c oc v oL es ep hk hc lU hv hd hs=>exact k oL es ep (.tail _ (.head _)) hd hs
theorem Dr{tp:Pos}{ifs:List aQ}{scope:gE}{pos:Pos}(K:Kb C A)(hh:A.handled=none)(ok:fy env kd)(co:CellsOk env kd)(lr:LR C env ν ρ lm)(c1:ab1 scope kd ν tn t oN)
  (hIt:Sm C A ρ VR H (.loc l) H1 (PySem.eval oN env)) (w:Wk H1 l xs)
  (hT:∀{cu X' aD x H b H'},T x H b H'→fy cu (gY scope.names kd)→CellsOk cu (gY scope.names kd)→LR (C.aM X') cu (ou scope.names ν tn t) aD (upd lm t x)→Sm (C.aM X') A aD B1 H b H' (rJ ifs cu))
  (hE:∀{cu X' aD x H y H'},El x H y H'→fy cu (gY scope.names kd)→CellsOk cu (gY scope.names kd)→LR (C.aM X') cu (ou scope.names ν tn t) aD (upd lm t x)→Sm (C.aM X') A aD VR H y H' (PySem.eval qq cu))
  (m:Mi (Fb T El) (gW H1 l) xs H1 ys H2) (sm:ys.length<bQ):CW C A ρ env H ys H2 qq [⟨.Name tn tp,oN,ifs,0⟩] scope pos:=
 Dq (tn:=tn) ok co c1.sc c1.it c1.JN hIt w fun{aD oI iz own Cl D I ab2 R} i6 ho ME coc ap tok n hD it hR=>
  tZ (F:=Fb T El) (TI:=SM (jK scope env Cl (own++gy env.cells (frees scope.names))) tn) (TA:=fun v T=>SM (jK scope env Cl (own++gy env.cells (frees scope.names))) tn T∧∀C':Cx,(∀p∈T,p∈C'.X)→Rd C' (jK scope env Cl (own++gy env.cells (frees scope.names))) tn v) (ρ:=aD) hh w (compTurn_list qq (.Name tn tp) oN ifs scope pos _ _ _) (fun _=>rfl)
   (fun ti ap n k=>QX ME.fn ap n ti fun T' s' t' hk g n' hr=>k T' s' ⟨t',hr⟩ hk g n')
   (fun{x jL a uW Z oD oI s cE u ys Q} hf ta hu jw ap n hD hz k=>by
    have hl:LR (C.aM (LX Z D I oD oI C.X)) _ (ou scope.names ν tn t) cE (upd lm t x):=LR.inner lr ok c1.sc rfl ho c1.sl (i6.trans jw) (fun q hq=>cU _ (.tail _ (.tail _ hq))) (ta.2 _ fun q hq=>dD _ hq) hu;cases hf with
    |no h=>exact af (hT h ME coc hl s n _ _ fun jf fH b j3 jx hb=>by
      exact aa (show b=false from hb) (aE (k jf Z oD fH j3 ta.1 rfl jx ((eW ys).symm▸hD.mono j3.p))))
    |yes h e=>exact af (hT h ME coc hl s n _ _ fun jf fH b j3 jx hb=>by
      exact aa (show b=true from hb) (af (af (hE e ME coc (hl.mono j3.p) fH jx _ _ fun iF iz v gK s6 hv=>af (Dp K.B ap s6 (hD.mono (j3.trans gK).p) hv hz fun uQ CO IK qa vW=>aE (aE (k iF Z uQ CO (j3.trans (gK.trans qa)) ta.1 rfl vW IK))))))))
   m (i:=0) (ys:=[]) rfl (Nat.zero_le _) sm dz (.refl _ _) ap tok n hD it fun aV T' uQ s' g ti hk n' IK=>ti.adm rfl fun oL es ep hm hd hs=>hR aV T' uQ s' oL es ep g hk hm hd hs n' IK
theorem Ei(env:Env):rJ [] env=jU true:=rfl
theorem KZ(h:Sm C A ρ B1 H b H1 (isTrue c env (PySem.eval c env))):Sm C A ρ B1 H b H1 (rJ [c] env):=by
 haveI e:rJ [c] env=(isTrue c env (PySem.eval c env)>>=fun b=>jU b):=by simp[rJ]
 exact aa e (h.map fun _ _ x=>x)
end
section
variable{C:Cx}{A:aG}{ρ:List ah}{H H1 H2:Hp}{s s':aB}{env cu:Env}{kd:cK}{ν:Slots}{lm:LM}{l:Nat}{xs ys:List AV}
theorem HW(elt dw kh dQ ji:aQ)(scope:gE)(pos:Pos)(it acc:Value)(env:Env):
  compTurn (.ListComp elt [⟨dw,kh,[],0⟩,⟨dQ,ji,[],0⟩] scope pos) 0 it acc env=(standAt kh.pos>>=fun _=>pyNext it>>=fun r=>match r with
   |none=>pure (.done .next)
   |some v=>letOwnedTupleGo dw it v>>=fun _=>assign dw env v>>=fun _=>
    (PySem.eval ji env>>=fun x=>standAt ji.pos>>=fun _=>foldedSetIterable ji env x>>=fun x=>holding [x] (pyIter x)>>=fun it₂=>
     runOwn (.compStart (.ListComp elt [⟨dw,kh,[],0⟩,⟨dQ,ji,[],0⟩] scope pos) 1 it₂ acc env) env>>=fun _=>
     again (.compLoop (.ListComp elt [⟨dw,kh,[],0⟩,⟨dQ,ji,[],0⟩] scope pos) 0 it acc env))):=by rfl
theorem HY(elt dw kh dQ ji:aQ)(scope:gE)(pos:Pos)(it acc:Value)(env:Env):
  compTurn (.ListComp elt [⟨dw,kh,[],0⟩,⟨dQ,ji,[],0⟩] scope pos) 1 it acc env=(standAt ji.pos>>=fun _=>pyNext it>>=fun r=>match r with
   |none=>pure (.done .next)
   |some v=>letOwnedTupleGo dQ it v>>=fun _=>assign dQ env v>>=fun _=>
    (PySem.eval elt env>>=fun x=>call (.builtin "list.append") [acc,x]>>=fun _=>pure ())>>=fun _=>
     again (.compLoop (.ListComp elt [⟨dw,kh,[],0⟩,⟨dQ,ji,[],0⟩] scope pos) 1 it acc env)):=by rfl
theorem HZ
  (h0:codeAny (model PG w) A (.compLoop (.ListComp elt [⟨dw,kh,[],0⟩,⟨dQ,ji,[],0⟩] scope pos) 1 it acc env) R s)
  (h:wpAny (model PG w) A (pyIter it) (fun it' s'=>codeAny (model PG w) A (.compLoop (.ListComp elt [⟨dw,kh,[],0⟩,⟨dQ,ji,[],0⟩] scope pos) 1 it' acc env) R s')
   (notedBy (model PG w) A env fun x s'=>R (.error x) s') s):
  codeAny (model PG w) A (.compStart (.ListComp elt [⟨dw,kh,[],0⟩,⟨dQ,ji,[],0⟩] scope pos) 1 it acc env) R s:=by
 refine Au ?_;show wpAny _ _ ((compStart (.ListComp elt [⟨dw,kh,[],0⟩,⟨dQ,ji,[],0⟩] scope pos) 1 it acc env).onRaise (fun x=>do noteFrame x env;standAt theWindowsPlace)) _ _ s
 refine wpAny_notedAt ?_;unfold compStart;show wpAny _ _ (ask>>=_) _ _ s;refine af (FA (tG ?_))
 split
 ·first
   |exact af (aE (aE (tN rfl h0)))
   |exact aE (tN rfl h0)
 ·first
   |exact af (oE (af (gz (af (eV h (fun it' s' h'=>aE (tN rfl h')) fun _ _ x=>x)))))
   |(refine af (oE ?_);show wpAny _ _ (standAt ji.pos>>=_) _ _ s;exact af (gz (af (eV h (fun it' s' h'=>aE (tN rfl h')) fun _ _ x=>x))))
theorem LR.cons(l:LR C env ν ρ lm)(om:∀n i,ν.lookup n=some i→i≠t)(hr:Rd C env tn u)(hu:VR ρ x u):LR C env ((tn,t)::ν) ρ (upd lm t x):=by
 intro y i v hy hv;rw[jz]at hy;cases Xe:y==tn with
 |true=>
  rw[Xe]at hy;cases hy;haveI:y=tn:=beq_iff_eq.mp Xe;subst this;haveI EI:v=x:=by
   delta upd at hv
   by_cases ht:t<lm.length
   ·rw[mF ht]at hv;cases hv;rfl
   ·rw[zb (by simpa using Nat.le_of_not_lt ht)]at hv;cases hv
  subst EI;exact⟨u,hr,hu⟩
 |false=>
  rw[Xe]at hy;haveI lU:i≠t:=om y i hy;delta upd at hv;rw[gZ (dg lU)]at hv;exact l y i v hy hv
structure ab4(scope:gE)(kd:cK)(ν:Slots)(fV jW:Str)(dw dQ:Nat)(kh ji:aQ):Prop where
 sc:E5 scope kd []
 it1:kF kh=true
 MF:kF ji=true
 nc:bG scope.names=[]
 k1:(gY scope.names kd).lookup fV=some .local
 k2:(gY scope.names kd).lookup jW=some .local
 ne:fV≠jW
 sl1:∀n i,(ou scope.names ν fV dw).tail.lookup n=some i→i≠dw
 sl2:∀n i,(ou scope.names ν fV dw).lookup n=some i→i≠dQ
inductive TL(cu:Env)(P:Array gf→Prop)(T:Led):Prop
 |mk (oL:Obj) (es:Array gf) (ep:Nat) (e:T=[(cu.locals,oL)]) (hd:oL.data=.dict es ep) (hs:kB es) (hp:P es)
theorem PT{v:Value}{Q:VQ Unit}{E:VQ Value}(hf:cu.scope.kind=.function)(hk:cu.kindOf x=some .local)(t:TL cu P T)(ap:Apart T D I X)(n:bf (C.aM (LX T D I oD oI X)) ρ H s)
  (hP:∀es vm,P es→(∀y,nsFind vm y=if y=x then some v else nsFind es y)→P' vm) (h:∀T' s',TL cu P' T'→T'.map (·.1)=T.map (·.1)→Go ρ ρ s s'→bf (C.aM (LX T' D I oD oI X)) ρ H s'→Q () s'):wpAny (model PG C.w) A (assign (.Name x p) cu v) Q E s:=by
 obtain⟨oL,es,ep,rfl,hd,hs,hp⟩:=t;exact sq ap n ⟨.head _,hd,hs,hf⟩ hk fun MD vm yp s' h1 h2 h3 g hn=>h [(cu.locals,MD)] s' ⟨MD,vm,yp,rfl,h1,h2,hP es vm hp h3⟩ rfl g (hn _ fun p hp=>.inl (bO.mp hp))
inductive Fe(El:AV→Hp→AV→Hp→Prop)(x:AV)(H:Hp):List AV→Hp→Prop
 |mk {H1:Hp} {y:AV} (k:El x H y H1):Fe El x H [y] H1
inductive F2(It:AV→Hp→AV→Hp→Prop)(El:AV→AV→Hp→AV→Hp→Prop)(x:AV)(H:Hp)(a:List AV)(H2:Hp):Prop
 |mk (l:Nat) (H1:Hp) (xs:List AV) (i:It x H (.loc l) H1) (w:Wk H1 l xs) (m:Mi (Fe (El x)) (gW H1 l) xs H1 a H2)
theorem Q0(K:Kb C A)(hh:A.handled=none)(ok:fy env kd)(co:CellsOk env kd)(lr:LR C env ν ρ lm)(c2:ab4 scope kd ν fV jW dw dQ kh ji)
  (hIt:Sm C A ρ VR H (.loc l) H1 (PySem.eval kh env)) (w:Wk H1 l xs)
  (hI2:∀{cu X' aD x H y H'},It x H y H'→fy cu (gY scope.names kd)→CellsOk cu (gY scope.names kd)→LR (C.aM X') cu (ou scope.names ν fV dw) aD (upd lm dw x)→Sm (C.aM X') A aD VR H y H' (PySem.eval ji cu))
  (hE:∀{cu X' aD x y H z H'},El x y H z H'→fy cu (gY scope.names kd)→CellsOk cu (gY scope.names kd)→LR (C.aM X') cu ((jW,dQ)::ou scope.names ν fV dw) aD (upd (upd lm dw x) dQ y)→Sm (C.aM X') A aD VR H z H' (PySem.eval qq cu))
  (m:Mi (F2 It El) (gW H1 l) xs H1 ys H2) (sm:ys.length<bQ):CW C A ρ env H ys H2 qq [⟨.Name fV M9,kh,[],0⟩,⟨.Name jW Nb,ji,[],0⟩] scope pos:=
 Dq (tn:=fV) ok co c2.sc c2.it1 (.inl ⟨c2.nc,c2.k1⟩) hIt w fun{aD oI iz own Cl D I ab2 R} i6 ho ME coc ap tok n hD it hR=>by
  have hk1:(jK scope env Cl (own++gy env.cells (frees scope.names))).kindOf fV=some .local:=by rw[dU,ME.kd];exact c2.k1
  have hk2:(jK scope env Cl (own++gy env.cells (frees scope.names))).kindOf jW=some .local:=by rw[dU,ME.kd];exact c2.k2
  haveI t0:TL (jK scope env Cl (own++gy env.cells (frees scope.names))) (fun _=>True) ab2:=by
   cases tok with
   |loc oL es ep hk hd hs=>exact⟨oL,es,ep,rfl,hd,hs,trivial⟩
   |cell c oc v oL es ep hk=>rw[hk1]at hk;cases hk
  refine tZ (F:=F2 It El) (TI:=TL _ fun _=>True) (TA:=fun v=>TL _ fun es=>nsFind es fV=some v) (ρ:=aD) hh w (HW qq (.Name fV M9) kh (.Name jW Nb) ji scope pos _ _ _) (fun _=>rfl)
   (fun ti ap n k=>PT ME.fn hk1 ti ap n (fun _ _ _ h=>by rw[h,aF rfl]) k)
   (fun{x jL a uW Z oD oI s cE u ys Q} hf ta hu jw ap n hD hz k=>?_)
   m (i:=0) (ys:=[]) rfl (Nat.zero_le _) sm dz (.refl _ _) ap t0 n hD it fun aV T' uQ s' g ti hk n' IK=>?_
  ·obtain⟨l₂,Ha,aev,hi2,ab5,m₂⟩:=hf;have lrx:∀{X':Led}{jf:List ah}{Z:Led},TL (jK scope env Cl (own++gy env.cells (frees scope.names))) (fun es=>nsFind es fV=some u) Z→cE<+:jf→(∀p∈Z,p∈X')→(∀q∈C.X,q∈X')→LR (C.aM X') (jK scope env Cl (own++gy env.cells (frees scope.names))) (ou scope.names ν fV dw) jf (upd lm dw x):=fun t p hz hx=>by
    obtain⟨oL,es,ep,rfl,hd,hs,hp⟩:=t;exact LR.inner lr ok c2.sc rfl ho c2.sl1 ((i6.trans jw).trans p) hx (.own oL es ep hk1 (hz _ (.head _)) hd hs hp) (hu.mono p)
   refine af (hI2 hi2 ME coc (lrx ta dz (fun q hq=>dD _ hq) fun q hq=>cU _ (.tail _ (.tail _ hq))) s n _ _ fun jf fH val j3 jx hv=>?_);refine af (gz (af (mD (kX c2.MF _) (af (dB ?_)))));refine nF (C:=C.aM (LX Z D I oD oI C.X)) jx hv ab5 fun vX CO vW qa itn=>?_;haveI fI:=jx.fresh;haveI aax:Apart Z D fH.heap.objs.size ((I,oI)::C.X):=by
    refine⟨ap.tt,ap.tD,fun q hq=>fI q (dD _ hq),fI (D,oD) (cU _ (.head _)),fun q hq r hr=>?_,fun q hq=>?_,fun q hq=>fI q (cU _ (.tail _ hq))⟩
    ·rcases bw.mp hr with rfl|hr
     ·exact(ap.tI q hq).symm
     ·exact ap.tX q hq r hr
    ·rcases bw.mp hq with rfl|hq
     ·exact ap.DI.symm
     ·exact ap.DX q hq
   have Wx:bf ((C.aM ((I,oI)::C.X)).aM (LX Z D fH.heap.objs.size oD vX ((I,oI)::C.X))) jf Ha CO:=by
    refine vW.qp fun q hq=>?_;rcases dc.mp hq with h|h
    ·exact .tail _ (dD _ h)
    ·rcases bw.mp h with rfl|h
     ·exact .tail _ (cU _ (.head _))
     ·rcases bw.mp h with rfl|h
      ·exact .head _
      ·exact .tail _ (cU _ (.tail _ h))
   haveI lp:=tZ (C:=C.aM ((I,oI)::C.X)) (F:=Fe (El x)) (TI:=TL (jK scope env Cl (own++gy env.cells (frees scope.names))) fun es=>nsFind es fV=some u) (TA:=fun v=>TL _ fun es=>nsFind es jW=some v∧nsFind es fV=some u) (ρ:=jf) (R:=fun r CP=>r=.ok .next∧Q (.again (.compLoop (.ListComp qq [⟨.Name fV M9,kh,[],0⟩,⟨.Name jW Nb,ji,[],0⟩] scope pos) 0 (.ref I) (.ref D) (jK scope env Cl (own++gy env.cells (frees scope.names))))) CP) hh ab5 (HY qq (.Name fV M9) kh (.Name jW Nb) ji scope pos _ _ _) (fun _=>rfl)
    (fun ti ap n k=>PT (C:=C.aM ((I,oI)::C.X)) ME.fn hk2 ti ap n (fun _ _ h' h=>⟨by rw[h,aF rfl],by rw[h,au c2.ne];exact h'⟩) k)
    (fun{y jL b uW Z oD vX s iF adn ys Q} hf ta aay ado ap n hD hz k=>by
     obtain⟨he⟩:=hf;have t1:TL (jK scope env Cl (own++gy env.cells (frees scope.names))) (fun es=>nsFind es fV=some u) Z:=by
      obtain⟨oL,es,ep,e,hd,hs,hp⟩:=ta;exact⟨oL,es,ep,e,hd,hs,hp.2⟩
     have hl:=lrx t1 (j3.p.trans ado) (X':=LX Z D fH.heap.objs.size oD vX ((I,oI)::C.X)) (fun q hq=>dD _ hq) fun q hq=>cU _ (.tail _ (.tail _ (.tail _ hq)));haveI hr:Rd (C.aM (LX Z D fH.heap.objs.size oD vX ((I,oI)::C.X))) (jK scope env Cl (own++gy env.cells (frees scope.names))) jW adn:=by
      obtain⟨oL,es,ep,rfl,hd,hs,hp⟩:=ta;exact .own oL es ep hk2 (.head _) hd hs hp.1
     exact af (af (hE he ME coc (hl.cons c2.sl2 hr aay) s n _ _ fun oO CO v qa vW hv=>af (Dp (C:=C.aM ((I,oI)::C.X)) K.B ap vW (hD.mono qa.p) hv hz fun uQ CP IK yD J4=>aE (aE (k oO Z uQ CP (qa.trans yD) t1 rfl J4 IK))))))
    m₂ (i:=0) rfl (Nat.zero_le _) hz dz (.refl _ _) aax ta Wx (hD.mono j3.p) itn fun aV T' uQ s' g ti hk n' IK=>⟨rfl,k aV T' uQ s' (j3.trans (qa.trans g)) (by obtain⟨oL,es,ep,e,hd,hs,_⟩:=ti;exact⟨oL,es,ep,e,hd,hs,trivial⟩) hk n' IK⟩
   refine af (wpAny_runOwn (Ax (HZ lp (zO (C:=(C.aM ((I,oI)::C.X)).aM (LX Z D fH.heap.objs.size oD vX ((I,oI)::C.X))) Wx (cU _ (.tail _ (.head _))) itn lp)) fun r CP hr=>?_));obtain⟨rfl,h6⟩:=hr;exact aE h6
  ·obtain⟨oL,es,ep,rfl,hd,hs,_⟩:=ti;exact hR aV _ uQ s' oL es ep g hk (.head _) hd hs n' IK
end
section
variable{M:k7}{A:aG}{E:Value→aB→Prop}{s:aB}{B:Heap}{env:Env}{outer l:List Env}{L e:ah}{cls:Value}{Q:Unit→aB→Prop}
theorem pH(V9:A.frames=some (env::outer))(hf:env.frame=some L)(x:qD B (env::outer) L e cls s.heap)
  (hQ:∀h' a0,Heap.HeldW B (env::outer) e cls a0 L h'→s.heap.UpToSlots h'→Q () {s with heap:=h'}):wpAny M A (noteFrame (.ref e) env) Q E s:=by
 obtain⟨x1,x2,x3,x4⟩:=x;rcases x4 with⟨a0,t⟩|⟨a0,t⟩|⟨oe,vs,a0,he,rfl,hd,h1,h0⟩
 ·exact wpAny_looks_onW V9 hf ⟨x1,x2,x3,t⟩ fun h' y z=>hQ h' a0 y z
 ·exact wpAny_noteFrame_againW hf t (hQ s.heap a0 ⟨x1,x2,x3,t⟩ (.refl _))
 ·unfold noteFrame;simp only[hf];refine af (mE he hd h1 ?_);refine aa (au (by decide)) (wpAny_entryW V9 x3 hf he x1 x2 hd (Array.getElem?_eq_some_iff.mp h1).1 h0 fun h' hN=>?_);refine vU (hN) fun k1 k2 k3 k4=>?_;exact hQ h' a0 ⟨k1,x2,k2,k3⟩ k4
theorem Heap.HeldW.GY(x:Heap.HeldW B l e cls a0 L h):qD B l L e cls h:=⟨x.1,x.2.1,x.2.2.1,.inr (.inl ⟨a0,x.2.2.2⟩)⟩
theorem Heap.FlyingW.GY(x:Heap.FlyingW B l e cls a0 h):qD B l L e cls h:=⟨x.1,x.2.1,x.2.2.1,.inl ⟨a0,x.2.2.2⟩⟩
theorem B9(V9:A.frames=some (env::outer))(hf:env.frame=some L)(x:qD B (env::outer) L e cls s.heap)
  (hQ:∀h' a0,Heap.FlyingW B outer e cls a0 h'→s.heap.UpToSlots h'→Q () {s with heap:=h'}):wpAny M A (leaving env (.ref e)) Q E s:=by
 unfold leaving;refine af (pH V9 hf x fun iL a0 y z=>?_);refine wpAny_landsW y fun qV J5 MQ=>?_;obtain⟨k1,k2,⟨_,_,k3⟩,k4⟩:=J5;exact hQ qV a0 ⟨k1,k2,k3,k4⟩ (z.trans MQ)
theorem Ca(hkb:B.StaysIn s.heap)(hl:s.heap.FunFrames B l)(ht:s.heap.TracedAtW B e cls a0 fl)
  (h:∀h',B.StaysIn h'→h'.FunFrames B l→h'.TracedAtW B e cls a0 (rawInt L)→s.heap.UpToSlots h'→Q () {s with heap:=h'}):
  wpAny M A (setFlight (.ref e) (some L)) Q E s:=by
 obtain⟨oe,vs,T,oT,ts,he,E6,hd,h1,hnT,hTe,hT,hdT,h3⟩:=ht;haveI ab6:3<ts.size:=(Array.getElem?_eq_some_iff.mp h3).1;have other:∀b,b≠T→(s.heap.update T (Obj.mapFields (·.setIfInBounds 3 ((some L:Option ah).elim Value.none fun f=>rawInt f)))).get? b=s.heap.get? b:=
  fun b hb=>Heap.get?_update_other _ _ (dg hb)
 have Dt:∀b o,s.heap.get? b=some o→(∀vs,o.data≠.fields vs)→b≠T:=fun b o hb Xf q=>by
  rw[q,hT]at hb;injection hb with hb;subst hb;exact Xf ts hdT
 unfold setFlight;refine af (mE he hd h1 ?_);refine aa (aF (show(Value.ref T !=Value.none)=true from by simp)) (FE hT hdT ab6 (h _ (fun b o Xg=>(other b fun q=>by rw[q,hnT]at Xg;cases Xg).trans (hkb b o Xg))
  (hl.of_keeps fun b o hb Xf=>⟨o,(other b (Dt b o hb Xf)).trans hb,rfl⟩) ?_ fun b o hb Xf=>⟨o.slots,(other b (Dt b o hb Xf)).trans hb⟩))
 exact⟨oe,vs,T,_,_,(other e (dg hTe)).trans he,E6,hd,h1,hnT,hTe,Heap.get?_update_self _ hT (OD (AU hdT _)),AU hdT _,by simp[ab6]⟩
theorem K6(hf:env.frame=some L)(x:Heap.HeldW B l e cls a0 L s.heap)
  (hQ:∀h',Heap.HeldW B l e cls a0 L h'→s.heap.UpToSlots h'→E (.ref e) {s with heap:=h'}):cameBackBy M A env E (.ref e) s:=by
 refine vU (x) fun x1 x2 x3 x4=>?_;haveI x4':=x4;obtain⟨oe,vs,T,oT,ts,he,E6,hd,h1,hnT,hTe,hT,hdT,h3⟩:=x4;delta cameBackBy;refine af (mE he hd h1 ?_)
 (refine aa (au (by simp)) (aa hf ?_))
 exact Ca x1 x3 x4' fun h' k1 k2 k3 k4=>hQ h' ⟨k1,x2,k2,k3⟩ k4
end
theorem St.upTo{g L m h h' N}(S:St g L m h N)(gB:g.StaysIn B)(NB:∀q∈N,B.get? q.1=some q.2)(st:B.StaysIn h')(u:h.UpToSlots h'):St g L m h' N:=
 ⟨⟨u.ns S.fr.ns,fun b o e=>st b o (gB b o e),S.fr.above⟩,fun p hp=>⟨st _ _ (NB p hp),(S.nw p hp).2⟩,S.nd,S.big,S.low,fun p hp=>let⟨a,r⟩:=S.fs p hp;⟨u.ns a,r⟩⟩
noncomputable def Cx.st(C:Cx)(m:Lo)(X:Led):Cx:={C with m:=m,X:=X}
theorem zP{h B:Heap}:∀{outer:List Env}{fs:List (ah×(Str→Option Value))},bh (fun(e:Env) (p:ah×(Str→Option Value))=>e.frame=some p.1∧e.scope.kind≠.module) outer fs→
  (∀p∈fs,h.Ns p.1 p.2)→(∀p∈fs,B.get? p.1=none)→h.FunFrames B outer:=by
 intro _ _ f
 induction f with
 |nil=>exact fun _ _=>trivial
 |cons a r ih=>exact fun hn hB=>Heap.FunFrames.cons a.2 a.1 (hn _ (.head _)) (hB _ (.head _)) (ih (fun p hp=>hn p (.tail _ hp)) fun p hp=>hB p (.tail _ hp))
section
variable{C:Cx}{A:aG}{ρ:List ah}{H:Hp}{s:aB}{env:Env}{outer:List Env}
theorem bJ.made(f:bJ C A env outer)(n:bf C ρ H s){h':Heap}(hm:Heap.MadeExcOf s.heap h' e (.type (CC k)) args):yy C ρ k H e {s with heap:=h'}:=by
 obtain⟨N,S,D,b⟩:=n;haveI keep:=hm.keeps
 let as:=C.L::C.m.fs.map (·.1)
 have nN:∀q∈N,q.1∉as:=fun q hq z=>by
  rcases bw.mp z with z|z
  ·exact(S.nw q hq).2.1 z
  ·refine bE (bX.mp z) fun p hp e=>?_;exact(S.fs p hp).2.2.1 (e▸dF (f:=je) hq)
 have nG:∀b o,C.g.get? b=some o→b∉as:=fun b o q z=>by
  rcases bw.mp z with rfl|z
  ·exact Nat.not_lt.mpr S.fr.above (Heap.lt_size q)
  ·refine bE (bX.mp z) fun p hp e=>?_;have:=(S.fs p hp).2.2.2;rw[e,q]at this;cases this
 refine⟨N,hideAll s.heap as,S.grow keep,D,b,fun b o q=>qA _ (S.fr.keep b o q) (nG b o q),fun q hq=>qA _ (S.nw q hq).1 (nN q hq),⟨fun b o q=>keep b o (w7 _ q),?_,?_,?_⟩⟩
 ·cases q:(hideAll s.heap as).get? e with
  |none=>rfl
  |some o=>have:=w7 _ q;rw[hm.new]at this;cases this
 ·exact aa f.fs (Heap.FunFrames.cons f.kind f.fr (S.fr.ns.keeps keep) (w6 _ (.head _)) (zP f.outs (fun p hp=>(S.fs p hp).1.keeps keep) fun p hp=>w6 _ (.tail _ (dF hp))))
 ·refine kZ (hm.there) fun t h1 _ _=>?_;exact .inr (.inr ⟨_,_,.ref t,h1,rfl,rfl,rfl,rfl⟩)
theorem xB{E:VQ Value}(f:bJ C A env outer)(hA:A'.frames=A.frames)(hx:yy C ρ k H e s)(hE:∀s',Go ρ ρ s s'→yy C ρ k H e s'→E (.ref e) s'):
  notedBy M A' env (cameBackBy M A env E) (.ref e) s:=by
 obtain⟨N,B,S,D,b,gB,NB,F⟩:=hx;unfold notedBy;rw[f.fs]at F;refine pH (hA.trans (f.frames.trans (aR some f.fs))) f.fr F fun iL a0 y z=>K6 f.fr y fun qV J5 MQ=>?_;exact hE _ (.toks ρ s _ _) ⟨N,B,S.upTo gB NB J5.1 (z.trans MQ),D,b,gB,NB,f.fs▸Heap.HeldW.GY J5⟩
end
def mU(cs:List ah)(X X':Led):Prop:=bh (fun p q=>q.1=p.1∧(q=p∨p.1∈cs)) X X'
theorem mU.refl(cs:List ah):∀X:Led,mU cs X X:=by
 intro rv
 induction rv with
 |nil=>
  exact .nil
 |cons _ r ih=>
  exact .cons ⟨rfl,.inl rfl⟩ (ih)
theorem mU.trans(x:mU cs X Y):mU cs Y Z→mU cs X Z:=by
 unfold mU at x
 induction x generalizing Z with
 |nil=>intro y;exact y
 |cons a _ ih=>
  intro y;unfold mU at y;cases y with
  |cons b y=>
   refine .cons ⟨b.1.trans a.1,?_⟩ (ih y);rcases a.2 with rfl|h
   ·exact b.2
   ·exact .inr h
theorem mU.put(h:a∈cs)(o:Obj):∀X:Led,mU cs X (putN a o X):=by
 intro rv
 induction rv with
 |nil=>
  exact .nil
 |cons p r ih=>
  refine .cons ?_ (ih);dsimp only
  by_cases q:p.1=a
  ·exact aa (aF q) ⟨q.symm,.inr (q▸h)⟩
  ·exact aa (au q) ⟨rfl,.inl rfl⟩
theorem mU.keys(x:mU cs X X'):X'.map (·.1)=X.map (·.1):=by
 unfold mU at x
 induction x with
 |nil=>rfl
 |cons a _ ih=>simp[a.1,ih]
theorem mU.mem(x:mU cs X X')(h:p∈X)(hn:p.1∉cs):p∈X':=by
 unfold mU at x
 induction x with
 |nil=>cases h
 |cons a _ ih=>
  rcases bw.mp h with rfl|h
  ·rcases a.2 with rfl|z
   ·exact .head _
   ·exact absurd z hn
  ·exact .tail _ (ih h)
theorem mU.tail(x:mU cs (p::X) X'):∃q Y,X'=q::Y∧q.1=p.1∧(q=p∨p.1∈cs)∧mU cs X Y:=by
 unfold mU at x;cases x with
 |cons a r=>exact⟨_,_,rfl,a.1,a.2,r⟩
noncomputable abbrev f9(env:Env):List ah:=env.cells.map (·.2)
structure pQ(env:Env)(X:Led):Prop where
 at_:∀c∈f9 env,∃o v,(c,o)∈X∧o.data=.cell v
structure At(C:Cx)(env:Env)(ν:Slots)(ρ:List ah)(lm:LM)(H:Hp)(s:aB):Prop where
 now:bf C ρ H s
 lr:LR C env ν ρ lm
 ce:pQ env C.X
structure Xh(C:Cx)(env:Env)(ν:Slots)(ρ:List ah)(lm:LM)(k:Ex)(H:Hp)(e:ah)(s:aB):Prop where
 x:yy C ρ k H e s
 lr:LR C env ν ρ lm
 ce:pQ env C.X
structure Mo(env:Env)(C:Cx)(m:Lo)(X:Led):Prop where
 fs:m.fs=C.m.fs
 xt:mU (f9 env) C.X X
theorem Mo.refl(env:Env)(C:Cx):Mo env C C.m C.X:=⟨rfl,mU.refl _ _⟩
theorem Mo.trans(a:Mo env C m X)(b:Mo env (C.st m X) m' X'):Mo env C m' X':=⟨b.fs.trans a.fs,a.xt.trans b.xt⟩
def FlR(ρ:List ah):Fl→gF→Prop
 |.next,f=>f=.next
 |.brk,f=>f=.brk
 |.ret v,f=> ∃u,f=.ret u∧VR ρ v u
 |.exc _,_=>False
def jg(C:Cx)(env:Env)(ν:Slots)(ρ:List ah)(s:aB)(fl:Fl)(lm:LM)(H:Hp)(Q:VQ gF)(E:VQ Value):Prop:=match fl with
 |.exc k=> ∀m X aV s' e,Mo env C m X→Go ρ aV s s'→Xh (C.st m X) env ν aV lm k H e s'→E (.ref e) s'
 |fl=> ∀m X aV s' f,Mo env C m X→Go ρ aV s s'→At (C.st m X) env ν aV lm H s'→FlR aV fl f→Q f s'
def mX(C:Cx)(A:aG)(env:Env)(ν:Slots)(lm:LM)(H:Hp)(fl:Fl)(aI:LM)(H':Hp)(t:Sem gF):Prop:=
 ∀ρ s,At C env ν ρ lm H s→∀Q E,jg C env ν ρ s fl aI H' Q E→wpAny (model PG C.w) A t Q E s
structure j4(C:Cx)(env:Env)(kd:cK)(ν:Slots):Prop where
 ok:fy env kd
 co:CellsOk env kd
 loc:env.locals=C.L
 ci:∀x y c,env.cells.lookup x=some c→env.cells.lookup y=some c→x=y
 ni:∀x y (i:Nat),ν.lookup x=some i→ν.lookup y=some i→x=y
section
variable{C:Cx}{A:aG}{env:Env}{ν:Slots}{kd:cK}{m:Lo}{X:Led}{ρ:List ah}{lm iZ aI:LM}{H H1 H':Hp}{s:aB}{fl:Fl}{Q:VQ gF}{E:VQ Value}
theorem jg.later(P:jg C env ν ρ s fl aI H' Q E)(mo:Mo env C m X)(g:Go ρ aD s s₁):jg (C.st m X) env ν aD s₁ fl aI H' Q E:=by
 cases fl with
 |exc k=>exact fun m' X' aV s' e sJ g' a=>P m' X' aV s' e (mo.trans sJ) (g.trans g') a
 |_=>exact fun m' X' aV s' f sJ g' a r=>P m' X' aV s' f (mo.trans sJ) (g.trans g') a r
theorem jg.go(P:jg C env ν ρ s fl aI H' Q E)(g:Go ρ aD s s₁):jg C env ν aD s₁ fl aI H' Q E:=P.later (m:=C.m) (X:=C.X) (.refl env C) g
theorem At.mono(a:At C env ν ρ lm H s)(p:ρ<+:aD)(n:bf C aD H1 s₁):At C env ν aD lm H1 s₁:=⟨n,a.lr.mono p,a.ce⟩
theorem At.aaz(a:At C env ν ρ lm H s)(p:ρ<+:aD)(n:yy C aD k H1 e s₁):Xh C env ν aD lm k H1 e s₁:=⟨n,a.lr.mono p,a.ce⟩
theorem At.ev(a:At C env ν ρ lm H s)(h:∀{ρ},LR C env ν ρ lm→Sm C A ρ R H x H1 t)(k:∀aD s₁ u,Go ρ aD s s₁→At C env ν aD lm H1 s₁→R aD x u→Q' u s₁):wpAny (model PG C.w) A t Q' E s:=
 h a.lr s a.now _ _ fun aD s₁ u g n r=>k aD s₁ u g (a.mono g.p n) r
theorem At.evx(a:At C env ν ρ lm H s)(h:∀{ρ},LR C env ν ρ lm→Sx C A ρ H k H1 t)(q:∀aD s₁ e,Go ρ aD s s₁→Xh C env ν aD lm k H1 e s₁→E (.ref e) s₁):wpAny (model PG C.w) A t Q' E s:=
 h a.lr s a.now _ _ fun aD s₁ e g n=>q aD s₁ e g (a.aaz g.p n)
theorem UH:mX C A env ν lm H .next lm H (PySem.exec (.Pass pos) env):=fun ρ s a _ _ P=>wpAny_Pass (P C.m C.X ρ s _ (.refl env C) (.refl ρ s) a rfl)
theorem yO(pos:Pos):PySem.exec (.Break pos) env=(do standAt pos;return .brk):=rfl
theorem Zj:mX C A env ν lm H .brk lm H (PySem.exec (.Break pos) env):=fun ρ s a _ _ P=>by
 rw[yO];exact af (gz (aE (P C.m C.X ρ s _ (.refl env C) (.refl ρ s) a rfl)))
theorem UI:mX C A env ν lm H (.ret .none) lm H (PySem.exec (.Return none pos) env):=fun ρ s a _ _ P=>wpAny_Return_none (P C.m C.X ρ s _ (.refl env C) (.refl ρ s) a ⟨_,rfl,rfl⟩)
theorem PU(h:∀{ρ},LR C env ν ρ lm→Sm C A ρ VR H v H1 (PySem.eval x env)):mX C A env ν lm H (.ret v) lm H1 (PySem.exec (.Return (some x) pos) env):=
 fun ρ s a _ _ P=>Fy (a.ev h fun aD s₁ u g eO hu=>P C.m C.X aD s₁ _ (.refl env C) g eO ⟨u,rfl,hu⟩)
theorem Zk(ht:∀{ρ},LR C env ν ρ lm→Sm C A ρ B1 H true H1 (isTrue tx env (PySem.eval tx env)))(h:mX C A env ν lm H1 fl aI H' (PySem.execs b1 env)):mX C A env ν lm H fl aI H' (PySem.exec (.If tx b1 b2 pos) env):=
 fun ρ s a _ _ P=>wpAny_If (a.ev ht fun aD s₁ u g eO hu=>by exact aa (show u=true from hu) (h aD s₁ eO _ _ (P.go g)))
theorem Zm(ht:∀{ρ},LR C env ν ρ lm→Sm C A ρ B1 H false H1 (isTrue tx env (PySem.eval tx env)))(h:mX C A env ν lm H1 fl aI H' (PySem.execs b2 env)):mX C A env ν lm H fl aI H' (PySem.exec (.If tx b1 b2 pos) env):=
 fun ρ s a _ _ P=>wpAny_If (a.ev ht fun aD s₁ u g eO hu=>by exact aa (show u=false from hu) (h aD s₁ eO _ _ (P.go g)))
theorem Zn:mX C A env ν lm H .next lm H (PySem.execs [] env):=fun ρ s a _ _ P=>wpAny_execs_nil (P C.m C.X ρ s _ (.refl env C) (.refl ρ s) a rfl)
def S6(C:Cx)(A:aG)(env:Env)(ν:Slots)(lm:LM)(H:Hp)(fl:Fl)(aI:LM)(H':Hp)(t:Sem gF):Prop:=∀m X,m.fs=C.m.fs→mX (C.st m X) A env ν lm H fl aI H' t
theorem UJ{st:bT}(h1:mX C A env ν lm H .next iZ H1 (PySem.exec st env))(h2:S6 C A env ν iZ H1 fl aI H' (PySem.execs r env)):mX C A env ν lm H fl aI H' (PySem.execs (st::r) env):=
 fun ρ s a _ _ P=>tu (h1 ρ s a _ _ fun m X aD s₁ f mo g eO hf=>by exact aa (show f=.next from hf) (h2 m X mo.fs aD s₁ eO _ _ (P.later mo g)))
theorem Ji{st:bT}(hf:fl≠.next)(h:mX C A env ν lm H fl aI H' (PySem.exec st env)):mX C A env ν lm H fl aI H' (PySem.execs (st::r) env):=fun ρ s a Q E P=>by
 refine tu (h ρ s a _ _ ?_);cases fl with
 |next=>exact absurd rfl hf
 |exc k=>exact P
 |brk=>exact fun m X aD s₁ f mo g eO r=>by cases r;exact P m X aD s₁ _ mo g eO rfl
 |ret v=>exact fun m X aD s₁ f mo g eO r=>by obtain⟨u,rfl,hu⟩:=r;exact P m X aD s₁ _ mo g eO ⟨u,rfl,hu⟩
end
section
variable{C:Cx}{A:aG}{env:Env}{outer:List Env}{ν:Slots}{kd:cK}{m:Lo}{X X':Led}{ρ:List ah}{lm iZ aI:LM}{H H1 H2 H3 H':Hp}{s:aB}{fl:Fl}{E:VQ Value}{u v w:AV}
theorem UK(h:(upd lm i v)[j]? =some (some w)):(j=i∧w=v)∨(j≠i∧lm[j]? =some (some w)):=by
 unfold upd at h
 by_cases q:j=i
 ·subst q;rw[List.getElem?_set]at h;rw[aF rfl]at h
  by_cases z:j<lm.length
  ·rw[aF z]at h;cases h;exact .inl ⟨rfl,rfl⟩
  ·rw[au z]at h;exact Cv h
 ·rw[gZ (dg q)]at h;exact .inr ⟨q,h⟩
theorem bf.Zo(n:bf C ρ H s)(hn:h'.Ns C.L m')(hs:Heap.SameBut C.L s.heap h'):bf (C.st ⟨m',C.m.fs⟩ C.X) ρ H {s with heap:=h',toks:=t}:=by
 obtain⟨N,S,D,b⟩:=n;exact⟨N,S.local hn hs,D,b⟩
theorem LR.store{u:Value}(es:j4 C env kd ν)(l:LR C env ν ρ lm)(om:ν.lookup tn=some i)(hn:Rd C' env tn u)(hv:VR ρ v u)(ho:∀y w,y≠tn→Rd C env y w→Rd C' env y w):LR C' env ν ρ (upd lm i v):=fun y j w hy hw=>by
 rcases UK hw with⟨rfl,rfl⟩|⟨hj,hw⟩
 ·obtain rfl:=es.ni y tn j hy om;exact⟨u,hn,hv⟩
 ·exact(l y j w hy hw).elim fun w' h=>⟨w',ho y w' (fun q=>hj (by subst q;rw[om]at hy;cases hy;rfl)) h.1,h.2⟩
theorem xY{u:Value}(es:j4 C env kd ν)(hk:kd.lookup tn=some .local∨kd.lookup tn=some .cell)(om:ν.lookup tn=some i)(a:At C env ν ρ lm H s)(hv:VR ρ v u)
  (h:∀m' X' s',Mo env C m' X'→Go ρ ρ s s'→At (C.st m' X') env ν ρ (upd lm i v) H s'→Q () s'):wpAny (model PG C.w) A (storeName env tn u) Q E s:=by
 have Cw:env.kindOf tn=kd.lookup tn:=by rw[dU,es.ok.kd]
 rcases hk with hk|hk
 ·rw[hk]at Cw;refine Fp (m:=C.m.loc) Cw (es.loc▸a.now.ns) (fun h' hn hs=>?_) (by refine aa es.ok.fn ?_;rfl);refine h ⟨fun y=>if y=tn then some u else C.m.loc y,C.m.fs⟩ C.X _ ⟨rfl,mU.refl _ _⟩ (.toks ρ s _ _) ⟨a.now.Zo (es.loc▸hn) (es.loc▸hs),a.lr.store es om (.fast Cw es.loc (aF rfl)) hv fun y w hy r=>?_,a.ce⟩
  cases r with
  |fast k1 k2 k3=>exact .fast k1 k2 ((au hy).trans k3)
  |own o vm ep k1 k2 k3 k4 k5=>exact .own o vm ep k1 k2 k3 k4 k5
  |cell c o k1 k2 k3 k4=>exact .cell c o k1 k2 k3 k4
 ·rw[hk]at Cw;refine eY (zk.mp (es.co tn (.inl hk))) fun c hc=>?_;have hcs:c∈f9 env:=dF (f:=wZ) (mem_of_lookup hc);refine qU (a.ce.at_ c hcs) fun o abY hm hd=>?_;refine NV es.ok.fn Cw hc ⟨o,a.now.extra (p:=(c,o)) hm,hd⟩ fun h' hn hs=>?_;refine bE (hn) fun o' g1 g2=>?_;have n':=a.now.yC (s':={s with heap:=h'}) (a:=c) (o:=o) (o':=o') hm (jr hs) g1 rfl;refine h C.m (putN c o' C.X) _ ⟨rfl,mU.put hcs o' C.X⟩ (.toks ρ s _ _) ⟨n',a.lr.store es om (.cell c o' (.inl Cw) hc (eL hm) g2) hv fun y w hy r=>?_,⟨fun c' hy=>?_⟩⟩
  ·cases r with
   |fast k1 k2 k3=>exact .fast k1 k2 k3
   |own n7 vm ep k1 k2 k3 k4 k5=>
    refine .own n7 vm ep k1 (cH k2 fun q=>?_) k3 k4 k5;rw[q]at k2;have:=a.now.QW k2 hm;rw[this,hd]at k3;cases k3
   |cell c₁ n7 k1 k2 k3 k4=>exact .cell c₁ n7 k1 k2 (cH k3 fun q=>hy (es.ci y tn c (q▸k2) hc)) k4
  ·refine qU (a.ce.at_ c' hy) fun n7 MO aaA aaB=>?_
   by_cases q:c'=c
   ·subst q;exact⟨o',_,eL hm,g2⟩
   ·exact⟨n7,MO,cH aaA q,aaB⟩
theorem pI{v:AV}{u:Value}(es:j4 C env kd ν)(hk:kd.lookup tn=some .local∨kd.lookup tn=some .cell)(om:ν.lookup tn=some i)(a:At C env ν ρ lm H s)(hv:VR ρ v u)
  (h:∀m' X' s',Mo env C m' X'→Go ρ ρ s s'→At (C.st m' X') env ν ρ (upd lm i v) H s'→Q () s'):wpAny (model PG C.w) A (assign (.Name tn tp) env u) Q E s:=by
 rw[kI];exact af (gz (wp_bindName (xY es hk om a hv h)))
noncomputable def gp(e:aQ):Bool:=match e with|.ListComp .. =>false|.SetComp .. =>false|.DictComp .. =>false|_=>true
theorem iI(h:gp e=true):swapsWith e t l env=pure false:=by
 cases e<;>first|exact nf h|rfl
theorem jS(ok:fy env kd):interactive env=false:=by
 unfold interactive;refine aa ok.fn ?_;rfl
theorem UL(ok:fy env kd)(hp:gp x=true)(h:∀{ρ},LR C env ν ρ lm→Sm C A ρ VR H v H1 (PySem.eval x env)):mX C A env ν lm H .next lm H1 (PySem.exec (.Expr x pos) env):=fun ρ s a _ _ P=>by
 exact aa (exec_Expr (hi:=jS ok) (hs:=iI hp)) (af (gz (af (a.ev h fun aD s₁ u g eO hu=>wpAny_dropValue (P C.m C.X aD s₁ _ (.refl env C) g eO rfl)))))
theorem Q2(ok:fy env kd)(hp:gp x=true)(h:∀{ρ},LR C env ν ρ lm→Sx C A ρ H k H1 (PySem.eval x env)):mX C A env ν lm H (.exc k) lm H1 (PySem.exec (.Expr x pos) env):=fun ρ s a _ _ P=>by
 exact aa (exec_Expr (hi:=jS ok) (hs:=iI hp)) (af (gz (af (a.evx h fun aD s₁ e g eO=>P C.m C.X aD s₁ e (.refl env C) g eO))))
noncomputable def w9(x:aQ)(tn:Str)(tp:Pos)(kd:cK):Bool:=match x with
 |.ListComp _ _ sc p=> !(kd.lookup tn==some .local&&tp.line==p.line&& !(sc.names.any fun x=>x.1==tn&&(x.2==.local||x.2==.cell)))
 |e=>gp e
noncomputable def vF(x:aQ)(tn:Str)(tp:Pos)(kd:cK):Bool:=match x with
 |.ListComp _ _ sc p=>kd.lookup tn==some .local&&tp.line==p.line&& !(sc.names.any fun x=>x.1==tn&&(x.2==.local||x.2==.cell))
 |_=>false
theorem Cb(ok:fy env kd):env.blockKind=.function:=by
 unfold Env.blockKind;refine aa ok.fn ?_;rfl
theorem aaC(x:aQ):(∃e g sc p,x=.ListComp e g sc p)∨((∀tn tp kd,vF x tn tp kd=false)∧∀tn tp kd,w9 x tn tp kd=gp x):=by
 cases x with
 |ListComp e g sc p=>exact .inl ⟨e,g,sc,p,rfl⟩
 |_=>exact .inr ⟨fun _ _ _=>rfl,fun _ _ _=>rfl⟩
theorem aaD(ok:fy env kd):swapsWith (.ListComp e g sc p) (some (.Name tn tp)) l env=pure (kd.lookup tn==some .local&&tp.line==p.line&& !(sc.names.any fun x=>x.1==tn&&(x.2==.local||x.2==.cell))):=by
 have Cw:env.kindOf tn=kd.lookup tn:=by rw[dU,ok.kd]
 delta swapsWith;dsimp only
 (refine aa Cw (aa (Cb ok) ?_))
 rfl
theorem qH(ok:fy env kd)(h:if b then vF x tn tp kd=true else w9 x tn tp kd=true):swapsWith x (some (.Name tn tp)) l env=pure b:=by
 rcases aaC x with q|q
 ·refine abP q fun e g sc p q=>?_;subst q;refine(aaD ok).trans (aR pure ?_);cases b with
  |true=>exact h
  |false=>exact(zj _).mp h
 ·cases b with
  |true=>exact nf ((q.1 _ _ _).symm.trans h)
  |false=>exact iI ((q.2 _ _ _).symm.trans h)
theorem PV(es:j4 C env kd ν)(hk:kd.lookup tn=some .local∨kd.lookup tn=some .cell)(om:ν.lookup tn=some i)(hp:w9 x tn tp kd=true)(h:∀{ρ},LR C env ν ρ lm→Sm C A ρ VR H v H1 (PySem.eval x env)):
  mX C A env ν lm H .next (upd lm i v) H1 (PySem.exec (.Assign [.Name tn tp] x pos) env):=fun ρ s a _ _ P=>by
 exact aa (exec_Assign_Name (hs:=qH (b:=false) es.ok hp)) (af (gz (af (a.ev h fun aD s₁ u g eO hu=>af (gz (af (wp_bindName (xY es hk om eO hu fun m' X' s' mo g' a'=>aE (P m' X' aD s' _ mo (g.trans g') a' rfl)))))))))
end
section
variable{C:Cx}{A:aG}{env:Env}{outer:List Env}{ν:Slots}{kd:cK}{m:Lo}{X X':Led}{ρ:List ah}{lm iZ aI:LM}{H H1 H2 H3 H':Hp}{s:aB}{fl:Fl}{E:VQ Value}{u v w:AV}
noncomputable abbrev NR:sU Unit gF:=fun _ _ f=>f=.next
theorem Sm.pJ(h:Sm C A ρ UR H () H1 t):Sm C A ρ UR H () H1 (t>>=fun _=>release vs ks):=fun s n _ _ q=>af (h s n _ _ fun aV s' b g n' y=>wpAny_release (q aV s' b g n' y))
theorem Sm.xC(h:Sm C A ρ UR H () H1 t):Sm C A ρ NR H () H1 (t>>=fun _=>jU .next):=h.map fun _ _ _=>rfl
theorem GZ(h:∀{ρ},LR C env ν ρ lm→Sm C A ρ NR H () H1 t):mX C A env ν lm H .next lm H1 t:=fun ρ s a _ _ P=>a.ev h fun aD s₁ u g eO hu=>P C.m C.X aD s₁ _ (.refl env C) g eO hu
theorem n9(o:aQ)(at_:Str)(pos':Pos)(value:aQ)(pos:Pos)(hs:swapsWith value (some (.Attribute o at_ pos')) pos.line env=pure false):PySem.exec (.Assign [.Attribute o at_ pos'] value pos) env=
  (do PySem.standAt pos;let v ←PySem.eval value env;assign (.Attribute o at_ pos') env v;jU .next):=by
 haveI e:PySem.exec (.Assign [.Attribute o at_ pos'] value pos) env=(do
   PySem.standAt pos
   if ←swapsWith value (some (.Attribute o at_ pos')) pos.line env then
    evalThenUse value env (assign (.Attribute o at_ pos') env)
    return .next
   let v ←PySem.eval value env
   assign (.Attribute o at_ pos') env v
   jU .next):=rfl
 (refine aa e (aa hs ?_));rfl
theorem Ia(K:Kb C A)(hp:gp value=true)(he:∀{ρ},LR C env ν ρ lm→Sm C A ρ VR H v H1 (PySem.eval value env))(ho:∀{ρ},LR C env ν ρ lm→Sm C A ρ VR H1 u H2 (PySem.eval ox env))(y:Sa u q v H2 H3):
  mX C A env ν lm H .next lm H3 (PySem.exec (.Assign [.Attribute ox (attrS q) pos'] value pos) env):=by
 refine aa (n9 _ _ _ _ _ (iI hp)) (GZ fun{ρ} l=>Sm.standAt ((he l).bind fun aD w i6 hv=>Sm.xC ?_));rw[arm_assign_Attribute];exact(ho (l.mono i6)).holding.bind fun cE x jw hx=>Sm.standAt (Sm.pJ (y K hx (hv.mono jw)).holding)
theorem K7(K:Kb C A)(hp:gp value=true)(he:∀{ρ},LR C env ν ρ lm→Sm C A ρ VR H v H1 (PySem.eval value env))(ho:∀{ρ},LR C env ν ρ lm→Sm C A ρ VR H1 u H2 (PySem.eval ox env))(hk:∀{ρ},LR C env ν ρ lm→Sm C A ρ VR H2 w H3 (PySem.eval kx env))(y:Ss u w v H3 H'):
  mX C A env ν lm H .next lm H' (PySem.exec (.Assign [.Subscript ox kx pos'] value pos) env):=by
 refine aa (exec_Assign_Subscript _ _ _ _ _ (iI hp)) (GZ fun{ρ} l=>Sm.standAt ((he l).bind fun aD z i6 hv=>Sm.xC ?_));rw[arm_assign_Subscript];exact(ho (l.mono i6)).holding.bind fun cE x jw hx=>(hk (l.mono (i6.trans jw))).holding.bind fun jf z J2 hy=>Sm.standAt (Sm.pJ (y K (hx.mono J2) hy (hv.mono (jw.trans J2))).holding)
theorem ue(t:aQ)(pos:Pos):PySem.exec (.Delete [t] pos) env=(do PySem.standAt pos;(PySem.delete t env>>=fun _=>deleteEach [] env)>>=fun _=>jU .next):=rfl
theorem Hg(h:∀{ρ},LR C env ν ρ lm→Sm C A ρ UR H () H1 (PySem.delete t env)):mX C A env ν lm H .next lm H1 (PySem.exec (.Delete [t] pos) env):=by
 rw[ue];exact GZ fun{ρ} l=>Sm.standAt (Sm.xC fun s n _ _ q=>af (h l s n _ _ fun aV s' b g n' y=>wpAny_deleteEach_nil (q aV s' () g n' trivial)))
theorem K8(K:Kb C A)(ho:Sm C A ρ VR H u H1 (PySem.eval ox env))(hk:∀aV,ρ<+:aV→Sm C A aV VR H1 v H2 (PySem.eval kx env))(y:Ds u v H2 H3):Sm C A ρ UR H () H3 (PySem.delete (.Subscript ox kx pos) env):=by
 rw[Fx];exact ho.bind fun cE x jw hx=>(hk cE jw).holding.bind fun jf z J2 hy=>Sm.standAt (Sm.pJ (y K (hx.mono J2) hy).holding)
theorem Jj{lo:Option Int}{k:Nat}{pos:Pos}{Q:VQ Unit}(K:Kb C A)(n:bf C ρ H s)(hl:H[l]? =some (.list xs))(ha:ρ[l]? =some a)(pl:tK vl lo)
  (hb:sliceBounds lo none none xs.length=((k:Int),(xs.length:Int),1)) (h:∀s',Go ρ ρ s s'→bf C ρ (H.set l (.list (xs.take k))) s'→Q () s'):
  wpAny (model PG C.w) A (do PySem.standAt pos;PySem.holding [.ref a,.ref s.heap.objs.size] (delItem (.ref a) (.ref s.heap.objs.size));release [.ref a,.ref s.heap.objs.size] []) Q E {s with heap:=s.heap.push {cls:=.type "slice",data:=.fields #[vl,.none,.none]}}:=by
 have n':bf C ρ H {s with heap:=s.heap.push {cls:=.type "slice",data:=.fields #[vl,.none,.none]}}:=n.grow (fun _ _ e=>Heap.get?_push_of_some _ e) rfl;refine af (gz (af (dB (n'.list hl ha fun vs j ho sm hv=>?_))));refine KO (n'.jl K.B).X ⟨ho,.inl rfl⟩ (hv.size▸sm) (Heap.IsSliceOf.new ..) pl (hv.size▸hb) fun f tk hf=>?_;refine wpAny_release (h _ (.toks ρ s _ _) (n'.upd (f:=bK f) ha ho ⟨Nat.lt_of_le_of_lt (by exact aa AJ (Nat.min_le_right _ _)) sm,f vs,_,rfl,?_⟩ rfl rfl));exact aa hf (hv.take k)
theorem K9(K:Kb C A)(ho:Sm C A ρ VR H (.loc l) H1 (PySem.eval ox env))(hl:H1[l]? =some (.list xs)):Sm C A ρ UR H () (H1.set l (.list [])) (PySem.delete (.Subscript ox (.Slice none none none p) pos) env):=by
 rw[Fx];refine ho.bind fun aD v i6 hx s n _ _ hR=>af (dB (wN ?_));rw[wL];exact aE (aE (aE (VR.eF hx fun a ha=>Jj (k:=0) K n hl ha .none (HQ _) fun s' g n'=>hR aD s' () g n' trivial)))
theorem Ib{p pos:Pos}(K:Kb C A)(ho:Sm C A ρ VR H (.loc l) H1 (PySem.eval ox env))(hk:∀aV,ρ<+:aV→Sm C A aV VR H1 (.int k) H2 (PySem.eval kx env))(h0:k<0)(hl:H2[l]? =some (.list xs)):
  Sm C A ρ UR H () (H2.set l (.list (xs.take (xs.length -(-k).toNat)))) (PySem.delete (.Subscript ox (.Slice (some kx) none none p) pos) env):=by
 rw[Fx];refine ho.bind fun aD v i6 hx s n _ _ hR=>af (dB (wN ?_));rw[wL,FJ];exact hk aD i6 s n _ _ fun cE bM u g dX hy=>aE (aE (VR.eF (hx.mono g.p) fun a ha=>VR.gX hy fun t=>Jj K dX hl ha (.int k t) (Ed _ h0) fun s' g' n'=>hR cE s' () (g.trans g') n' trivial))
end
section
variable{C:Cx}{A:aG}{env:Env}{outer:List Env}{ν:Slots}{kd:cK}{m:Lo}{X X':Led}{ρ:List ah}{lm iZ gV aI:LM}{H H1 H2 H3 H':Hp}{s:aB}{fl:Fl}{E:VQ Value}{u v w:AV}
theorem LR.sub(l:LR (C.aM X) env ν ρ lm)(h:∀p∈X,(p.1∈f9 env∨p.1=env.locals)→p∈X'):LR (C.aM X') env ν ρ lm:=fun x i v hx hi=>(l x i v hx hi).elim fun u r=>⟨u,by
 cases r.1 with
 |fast k1 k2 k3=>exact .fast k1 k2 k3
 |own o es ep k1 k2 k3 k4 k5=>exact .own o es ep k1 (h _ k2 (.inr rfl)) k3 k4 k5
 |cell c o k1 k2 k3 k4=>exact .cell c o k1 k2 (h _ k3 (.inl (dF (f:=wZ) (mem_of_lookup k2)))) k4,r.2⟩
theorem pQ.sub(c:pQ env X)(h:∀p∈X,(p.1∈f9 env∨p.1=env.locals)→p∈X'):pQ env X':=
 ⟨fun a ha=>(c.at_ a ha).elim fun o h2=>h2.elim fun v h3=>⟨o,v,h _ h3.1 (.inl ha),h3.2⟩⟩
theorem yy.qp(hx:yy (C.aM X) ρ k H e s)(h:∀p∈X',p∈X):yy (C.aM X') ρ k H e s:=by
 obtain⟨N,B,S,D,b,gB,NB,F⟩:=hx;exact⟨N,B,S,⟨D.len,D.nd,D.ob,fun p hp=>D.ext p (h p hp),fun p hp=>D.sep p (h p hp)⟩,b,gB,NB,F⟩
theorem bf.pV(n:bf C ρ H s)(h:p∈C.X):p.1≠C.L:=by
 cases n with|mk N S D b=>exact(S.nw _ (D.ext p h)).2.1
theorem tail_sub(hn:q.1∉f9 env)(hl:q.1≠env.locals):∀p∈q::X,(p.1∈f9 env∨p.1=env.locals)→p∈X:=fun p hp hc=>by
 rcases bw.mp hp with rfl|hp
 ·exact absurd hc (not_or.mpr ⟨hn,hl⟩)
 ·exact hp
theorem At.push(a:At C env ν ρ lm H s)(p:ρ<+:aV)(n:bf (C.aM (q::C.X)) aV H' s'):At (C.aM (q::C.X)) env ν aV lm H' s':=
 ⟨n,(a.lr.mono p).sub (X:=C.X) fun p hp _=>.tail _ hp,a.ce.sub fun p hp _=>.tail _ hp⟩
theorem At.pop(a:At (C.aM (q::X)) env ν ρ lm H s)(hn:q.1∉f9 env)(hl:q.1≠env.locals):At (C.aM X) env ν ρ lm H s:=
 ⟨a.now.qp fun p hp=>.tail _ hp,a.lr.sub (tail_sub hn hl),a.ce.sub (tail_sub hn hl)⟩
theorem Xh.pop(a:Xh (C.aM (q::X)) env ν ρ lm k H e s)(hn:q.1∉f9 env)(hl:q.1≠env.locals):Xh (C.aM X) env ν ρ lm k H e s:=
 ⟨a.x.qp fun p hp=>.tail _ hp,a.lr.sub (tail_sub hn hl),a.ce.sub (tail_sub hn hl)⟩
theorem Mo.top(hn:q.1∉f9 env)(mo:Mo env (C.aM (q::C.X)) m X){P:Prop}(k:∀Y,X=q::Y→Mo env C m Y→P):P:=by
 obtain⟨fs,xt⟩:=mo;refine acW (xt.tail) fun q' Y fF _ h xt'=>?_;subst fF;obtain rfl:=h.resolve_right hn;exact k Y rfl ⟨fs,xt'⟩
noncomputable def CQ(kd:cK)(ν:Slots)(i:Nat)(x:aQ):Bool:=match x with
 |.Name tn _=>(decide (kd.lookup tn=some .local)||decide (kd.lookup tn=some .cell))&&decide (ν.lookup tn=some i)
 |_=>false
noncomputable def Al(kd:cK)(ν:Slots):List Nat→List aQ→Bool
 |[],[]=>true
 |i::is,x::xs=>CQ kd ν i x&&Al kd ν is xs
 |_,_=>false
noncomputable def qk(kd:cK)(ν:Slots):Mp→aQ→Bool
 |.one i,x=>CQ kd ν i x
 |.many is,.Tuple xs _ _=>Al kd ν is xs
 |_,_=>false
theorem pW(h:CQ kd ν i x=true):∃tn tp,x=.Name tn tp∧(kd.lookup tn=some .local∨kd.lookup tn=some .cell)∧ν.lookup tn=some i:=by
 cases x with
 |Name tn tp=>
  have h:=qi.mp (show((decide (kd.lookup tn=some .local)||decide (kd.lookup tn=some .cell))&&decide (ν.lookup tn=some i))=true from h);exact⟨tn,tp,rfl,(rt.mp h.1).imp cP cP,cP h.2⟩
 |_=>exact nf h
theorem Q3(h:qk kd ν (.many is) x=true):∃xs k p,x=.Tuple xs k p∧Al kd ν is xs=true:=by
 cases x with
 |Tuple xs k p=>exact⟨xs,k,p,rfl,h⟩
 |_=>exact nf h
theorem Q5:∀{is:List Nat}{xs:List aQ},Al kd ν is xs=true→(assignEach xs env).length=is.length∧(assignEach xs env).findIdx? (·.1)=none:=by
 intro is
 induction is with
 |nil=>
  intro xs h;cases xs with
  |nil=>exact⟨rfl,rfl⟩
  |cons=>exact nf h
 |cons i is ih=>
  intro xs h;cases xs with
  |nil=>exact nf h
  |cons x xs=>
   have h:=qi.mp (show(CQ kd ν i x&&Al kd ν is xs)=true from h);have q:=ih h.2;refine qU (pW h.1) fun tn tp fF _=>?_;subst fF;exact⟨aR Nat.succ q.1,AH.trans (aR (Option.map fun i=>i+1) q.2)⟩
inductive Bt(H:Hp)(lm:LM):Mp→AV→LM→Prop
 |one {i:Nat} {v:AV}:Bt H lm (.one i) v (upd lm i v)
 |many {is:List Nat} {l:Nat} {vs:List AV} {aI:LM} (h:H[l]? =some (.tuple vs)) (k:tR lm is vs=some aI):Bt H lm (.many is) (.loc l) aI
theorem Cd:∀{is:List Nat}{xs:List aQ}{as:List AV}{us:List Value}{lm aI:LM}{C:Cx}{s:aB}{Q:VQ Unit},j4 C env kd ν→Al kd ν is xs=true→tR lm is as=some aI→bh (VR ρ) as us→At C env ν ρ lm H s→
  (∀m' X' s',Mo env C m' X'→Go ρ ρ s s'→At (C.st m' X') env ν ρ aI H s'→Q () s')→wpAny (model PG C.w) A (assignInOrder ((assignEach xs env).map (·.2)) us) Q E s:=by
 intro is
 induction is with
 |nil=>
  intro xs as us lm aI C s Q es ht hu h2 a h;cases xs with
  |cons=>exact nf ht
  |nil=>
   cases as with
   |cons=>exact Cv hu
   |nil=>cases h2;cases hu;exact aE (h C.m C.X s (.refl env C) (.refl ρ s) a)
 |cons i is ih=>
  intro xs as us lm aI C s Q es ht hu h2 a h;cases xs with
  |nil=>exact nf ht
  |cons x xs=>
   cases as with
   |nil=>exact Cv hu
   |cons v as=>
    cases h2 with
    |cons h3 h4=>
     have ht:=qi.mp (show(CQ kd ν i x&&Al kd ν is xs)=true from ht);refine jZ (pW ht.1) fun tn tp fF hk om=>?_;subst fF;show wpAny _ A (do PySem.holding _ (assign (.Name tn tp) env _);assignInOrder ((assignEach xs env).map (·.2)) _) Q E s
     exact af (dB (pI es hk om a h3 fun m' X' s' mo g a'=>ih (C:=C.st m' X') ⟨es.ok,es.co,es.loc,es.ci,es.ni⟩ ht.2 hu h4 a' fun S7 Ms j8 sJ g' IL=>h S7 Ms j8 (mo.trans sJ) (g.trans g') IL))
theorem Ic:∀{is:List Nat}{as:List AV}{lm aI:LM},tR lm is as=some aI→is.length=as.length:=by
 intro is
 induction is with
 |nil=>intro as lm aI h;cases as<;>first|rfl|cases h
 |cons i is ih=>intro as lm aI h;cases as<;>first|(cases h;done)|exact aR Nat.succ (ih h)
theorem xZ{u:Value}(hh:A.handled=none)(es:j4 C env kd ν)(ht:qk kd ν t x=true)(b:Bt H lm t v aI)(a:At C env ν ρ lm H s)(hv:VR ρ v u)
  (h:∀m' X' s',Mo env C m' X'→Go ρ ρ s s'→At (C.st m' X') env ν ρ aI H s'→Q () s'):wpAny (model PG C.w) A (assign x env u) Q E s:=by
 cases b with
 |one=>
  refine jZ (pW (show CQ kd ν _ x=true from ht)) fun tn tp fF hk om=>?_;subst fF;exact pI es hk om a hv h
 | @many is l vs _ hl hu=>
  refine CJ (Q3 ht) fun xs k pos e ht=>?_;subst e;refine bE (hv) fun b hb fF=>?_;subst fF;refine a.now.tup hl hb fun us j ho _ nZ=>?_;refine iK (Q5 (env:=env) ht) fun l1 l2=>?_;refine wpAny_assign_Tuple hh ⟨_,ho,rfl,j,rfl⟩ (by(refine aa l1 (aa (Ic hu) ?_);refine aa nZ.size ?_;with_reducible rfl)) l2 fun h' he=>?_;exact Cd (s:={s with heap:=h'}) es ht hu nZ (a.mono dz (a.now.grow (s':={s with heap:=h'}) (fun b o q=>he b o (Nat.ne_of_lt (Heap.lt_size q)) q) rfl)) fun m' X' s' mo g a'=>h m' X' s' mo ((Go.toks ρ s _ _).trans g) a'
noncomputable def PW(e:aQ):Bool:=match e with|.Tuple .. =>false|_=>true
theorem La{k:Nat}(hh:A.handled=none)(es:j4 C env kd ν)(ht:Al kd ν is xs=true)(hp:gp value=true)(hnt:PW value=true)(h:∀{ρ},LR C env ν ρ lm→Sm C A ρ VR H v H1 (PySem.eval value env))(b:Bt H1 lm (.many is) v aI):
  mX C A env ν lm H .next aI H1 (PySem.exec (.Assign [.Tuple xs k tp] value pos) env):=fun ρ s a _ _ P=>
 wpAny_Assign_stores (a.ev h fun aD s₁ u g eO hu=>xZ (x:=.Tuple xs k tp) hh es (show qk kd ν (.many is) (.Tuple xs k tp)=true from ht) b eO hu fun m' X' s' mo g' a'=>P m' X' aD s' _ mo (g.trans g') a' rfl)
  (show swapsWith value (some (.Tuple xs k tp)) pos.line env=pure false from iI hp) (by cases value<;>first|rfl|cases hnt)
end
section
variable{C:Cx}{A:aG}{env:Env}{outer:List Env}{ν:Slots}{kd:cK}{m:Lo}{X X':Led}{ρ:List ah}{lm iZ gV aI:LM}{H H1 H2 H3 H':Hp}{s:aB}{fl:Fl}{E:VQ Value}{u v w:AV}
theorem Ie{u:Value}{Q:VQ Unit}(n:bf C ρ H s)(hI:(I,o)∈C.X)(it:EH ρ H l xs i o)(h:Q () s):wpAny (model PG C.w) A (letOwnedTupleGo x (.ref I) u) Q E s:=by
 haveI pZ:=n.extra hI;have key:∀(nm:String)(vs:Array Value),o.cls=.type nm→o.data=.fields vs→(["enumerate", "zip", "dict_itemiterator", "dict_reverseitemiterator", "odict_iterator", "itertools.zip_longest", "itertools.pairwise"].contains nm)=false→wpAny (model PG C.w) A (letOwnedTupleGo x (.ref I) u) Q E s:=by
  intro nm vs hc hd hn;unfold letOwnedTupleGo;have tup:wpAny (model PG C.w) A (match(Value.ref I,u)with
    |(Value.ref r,Value.ref a)=>(do
     let o ←load r
     match o.cls,o.data with
     |.type n,.fields vs=>
      if ["enumerate", "zip", "dict_itemiterator", "dict_reverseitemiterator", "odict_iterator", "itertools.zip_longest", "itertools.pairwise"].contains n&&vs[0]? ==some (rawInt a)then
       rule "for.unpacks-the-owned-tuple"
       updateField r 0 .none
     |_,_=>jU ():Sem Unit)
    |_=>jU ()) Q E s:=by
   cases u<;>first|exact aE h|skip
   refine af (tF pZ ?_);rw[hc,hd];dsimp only;rw[hn,OH,au (by decide)];exact aE h
  cases x<;>first|exact aE h|exact tup
 cases it with
 |list a hl ha c d=>exact key _ _ c d (by decide)
 |dict a kvs ep hl e ha c d=>exact key _ _ c d (by decide)
 |vals a q kvs ep hl hd e ha c d=>exact key _ _ c d (by decide)
 |pX lo hi hl e d=>subst d;exact key "range_iterator" _ rfl rfl (by decide)
noncomputable def Fl.stp:Fl→Option Fl
 |.next=>none
 |.brk=>some .next
 |f=>some f
inductive CT(El:LM→Hp→Fl→LM→Hp→Prop):Option Fl→LM→Hp→Fl→LM→Hp→Prop
 |els {lm aI:LM} {H H':Hp} {fl:Fl} (h:El lm H fl aI H'):CT El none lm H fl aI H'
 |stop {lm:LM} {H:Hp} {fl:Fl}:CT El (some fl) lm H fl lm H
theorem bJ.st(f:bJ C A env outer)(h:m.fs=C.m.fs):bJ (C.st m X) A env outer:=⟨f.fs,f.frames,f.fr,f.kind,by rw[show(C.st m X).m.fs=C.m.fs from h];exact f.outs,by rw[show(C.st m X).m.fs=C.m.fs from h];exact f.nd⟩
theorem j4.st(es:j4 C env kd ν):j4 (C.st m X) env kd ν:=⟨es.ok,es.co,es.loc,es.ci,es.ni⟩
theorem jg.Nc(f:bJ C A env outer)(P:jg C env ν ρ s fl aI H' Q E)(mo:Mo env C m X)(g:Go ρ aD s s₁):jg (C.st m X) env ν aD s₁ fl aI H' Q (notedBy (model PG C.w) A env fun e s'=>cameBackBy (model PG C.w) A env E e s'):=by
 cases fl with
 |exc k=>exact fun m' X' aV s' e sJ g' a=>xB (f.st (m:=m') (X:=X') (mo.trans sJ).fs) rfl a.x fun j8 g'' hx=>P m' X' aV j8 e (mo.trans sJ) (g.trans (g'.trans g'')) ⟨hx,a.lr,a.ce⟩
 |_=>exact fun m' X' aV s' f sJ g' a r=>P m' X' aV s' f (mo.trans sJ) (g.trans g') a r
def Tz(Bd El:LM→Hp→Fl→LM→Hp→Prop)(t:Mp)(K:Hp→Prop)(fl:Fl)(aI:LM)(H':Hp):List AV→LM→Hp→Prop
 |[],lm,H=>El lm H fl aI H'
 |v::xs,lm,H=> ∃iZ,Bt H lm t v iZ∧((∃gV H2,Bd iZ H .next gV H2∧K H2∧Tz Bd El t K fl aI H' xs gV H2)∨∃f0,Bd iZ H f0 aI H'∧f0.stp=some fl)
def Tn(Bd:LM→Hp→Fl→LM→Hp→Prop)(t:Mp)(K:Hp→Prop)(xs:List AV)(lm:LM)(H:Hp)(r:Option Fl)(gV:LM)(H2:Hp):Prop:=
 ∀(El:LM→Hp→Fl→LM→Hp→Prop)(fl:Fl)(aI:LM)(H':Hp),CT El r gV H2 fl aI H'→Tz Bd El t K fl aI H' xs lm H
section
variable{Bd:LM→Hp→Fl→LM→Hp→Prop}{t:Mp}{K:Hp→Prop}{xs:List AV}{f0:Fl}{r:Option Fl}
theorem Tn.nil:Tn Bd t K [] lm H none lm H:=fun El fl aI H' e=>by cases e with|els h=>exact h
theorem Tn.next(b:Bt H lm t v iZ)(h:Bd iZ H .next gV H2)(k:K H2)(q:Tn Bd t K xs gV H2 r aI H'):Tn Bd t K (v::xs) lm H r aI H':=fun El fl l h' e=>⟨iZ,b,.inl ⟨gV,H2,h,k,q El fl l h' e⟩⟩
theorem Tn.stop(b:Bt H lm t v iZ)(h:Bd iZ H f0 gV H2)(e:f0.stp=some fl):Tn Bd t K (v::xs) lm H (some fl) gV H2:=fun El fl l h' z=>by cases z;exact⟨iZ,b,.inr ⟨f0,h,e⟩⟩
end
theorem jg.stop(f:bJ C A env outer)(e:f0.stp=some fl)(sL:I∉f9 env)(yY:I≠env.locals)(P:jg C env ν bC s₀ fl aI H' Q E)(mo:Mo env C gw Y)(g:Go bC ρ s₀ s)(q1:∀s,Q .next s→Q'' .brk s)(q2:∀u s,Q (.ret u) s→Q'' (.ret u) s):
  jg (C.st gw ((I,qP)::Y)) env ν ρ s f0 aI H' Q'' (notedBy (model PG C.w) A env fun e s'=>cameBackBy (model PG C.w) A env E e s'):=by
 cases f0 with
 |next=>cases e
 |brk=>cases e;exact fun kK vY iF iz qW jD gK mY r=>Mo.top (C:=C.st gw Y) (q:=(I,qP)) sL jD fun Z hZ iS=>by subst hZ;cases r;exact q1 _ (P kK Z iF iz _ (mo.trans iS) (g.trans gK) (mY.pop (C:=C.st kK Z) sL yY) rfl)
 |ret u=>cases e;exact fun kK vY iF iz qW jD gK mY r=>Mo.top (C:=C.st gw Y) (q:=(I,qP)) sL jD fun Z hZ iS=>by subst hZ;exact r.elim fun u' hu=>by rw[hu.1];exact q2 _ _ (P kK Z iF iz _ (mo.trans iS) (g.trans gK) (mY.pop (C:=C.st kK Z) sL yY) ⟨u',rfl,hu.2⟩)
 |exc k=>
  cases e;exact fun kK vY iF iz adp jD gK mY=>Mo.top (C:=C.st gw Y) (q:=(I,qP)) sL jD fun Z hZ iS=>by
   subst hZ;exact xB (f.st (m:=kK) (X:=(I,qP)::Z) (mo.trans iS).fs) rfl mY.x fun CO qa hx=>P kK Z iF CO adp (mo.trans iS) (g.trans (gK.trans qa)) (Xh.pop (C:=C.st kK Z) ⟨hx,mY.lr,mY.ce⟩ sL yY)
structure C7(C:Cx)(env:Env)(ν:Slots)(l:Nat)(xs:List AV)(H₀:Hp)(I:ah)(bC:List ah)(s₀:aB)(n:Nat)(s:aB)(i:Nat)(m:Lo)(X:Led)(ρ:List ah)(lm:LM)(H:Hp)(oI:Obj)(Ab:List AV):Prop where
 hn:n=Ab.length
 hd:xs.drop i=Ab
 le:i≤xs.length
 g:Go bC ρ s₀ s
 mo:Mo env C m X
 a:At ((C.st m X).aM ((I,oI)::X)) env ν ρ lm H s
 it:EH ρ H l xs i oI
 st:gW H₀ l H
inductive Wy(C:Cx)(env:Env)(ν:Slots)(l:Nat)(xs:List AV)(H₀:Hp)(t:Mp)(Bd El:LM→Hp→Fl→LM→Hp→Prop)(I:ah)(fl:Fl)(aI:LM)(H':Hp)(bC:List ah)(s₀:aB)(n:Nat)(s:aB):Prop
 |mk (i:Nat) (m:Lo) (X:Led) (ρ:List ah) (lm:LM) (H:Hp) (oI:Obj) (Ab:List AV) (B:C7 C env ν l xs H₀ I bC s₀ n s i m X ρ lm H oI Ab) (d:Tz Bd El t (gW H₀ l) fl aI H' Ab lm H)
theorem C7.ne(B:C7 C env ν l xs H₀ I bC s₀ n s i m X ρ lm H oI Ab)(Ad:∀p∈C.X,p.1≠I):∀p∈X,p.1≠I:=fun q hq e=>
 (bX.mp (show q.1∈C.X.map (·.1)from B.mo.xt.keys▸dF hq)).elim fun r h=>Ad r h.1 (h.2.trans e)
theorem zQ{l i:Nat}{I:ah}{oI:Obj}{x:AV}{kR:LM}{N B:aB→Prop}{E':VQ Value}(hh:A.handled=none)(es:j4 C env kd ν)(ht:qk kd ν tg tx=true)(sL:I∉f9 env)(yY:I≠env.locals)(Ad:∀p∈C.X,p.1≠I)
  (a:At (C.aM ((I,oI)::C.X)) env ν ρ lm H s) (it:EH ρ H l xs i oI) (hd:xs.drop i=x::ys) (b:Bt H lm tg x kR) (k:∀gw Y qP fH,Mo env C gw Y→Go ρ ρ s fH→At ((C.st gw Y).aM ((I,qP)::Y)) env ν ρ kR H fH→EH ρ H l xs (i+1) qP→B fH):
  wpAny (model PG C.w) A (pyNext (.ref I)) (fun r s₁=>match r with
   |none=>N s₁
   |some v=>wpAny (model PG C.w) A (letOwnedTupleGo tx (.ref I) v) (fun _ zx=>wpAny (model PG C.w) A (assign tx env v) (fun _ bM=>B bM) E' zx) E' s₁) E' s:=by
 haveI hix:xs[i]? =some x:=by
  haveI:=aR (fun l=>l[0]?) hd
  simpa using this
 refine zM (C:=C.aM ((I,oI)::C.X)) a.now (.head _) it hix fun qP bM u dX ja it₂ hu=>?_;haveI WB:bf (C.aM ((I,qP)::C.X)) ρ H bM:=dX.qp fun q hq=>by
  rcases bw.mp hq with rfl|hq
  ·exact eL (.head _)
  ·exact cH (o:=q.2) (.tail _ hq) (Ad q hq)
 refine Ie (C:=C.aM ((I,qP)::C.X)) WB (.head _) it₂ ?_;refine xZ (C:=C.aM ((I,qP)::C.X)) hh (es.st (m:=C.m) (X:=(I,qP)::C.X)) ht b ((a.pop sL yY).push (C:=C) dz WB) hu fun gw aeF fH kr j3 mZ=>?_;exact Mo.top (C:=C) (q:=(I,qP)) sL kr fun Y hY Zq=>by subst hY;exact k gw Y qP fH Zq (ja.trans j3) mZ it₂
theorem C7.turn{I:ah}{bC:List ah}{s₀:aB}{n i:Nat}{oI:Obj}{kR:LM}{N Bq:aB→Prop}{E':VQ Value}(B:C7 C env ν l xs H₀ I bC s₀ n s i m X ρ lm H oI (x::ys))(hh:A.handled=none)(es:j4 C env kd ν)(ht:qk kd ν t tx=true)(sL:I∉f9 env)(yY:I≠env.locals)(Ad:∀p∈C.X,p.1≠I)(b:Bt H lm t x kR)
  (k:∀gw Y qP fH,Mo env C gw Y→Go bC ρ s₀ fH→At ((C.st gw Y).aM ((I,qP)::Y)) env ν ρ kR H fH→EH ρ H l xs (i+1) qP→Bq fH):
  wpAny (model PG C.w) A (pyNext (.ref I)) (fun r s₁=>match r with
   |none=>N s₁
   |some v=>wpAny (model PG C.w) A (letOwnedTupleGo tx (.ref I) v) (fun _ zx=>wpAny (model PG C.w) A (assign tx env v) (fun _ bM=>Bq bM) E' zx) E' s₁) E' s:=
 zQ (C:=C.st m X) hh (es.st (m:=m) (X:=X)) ht sL yY (B.ne Ad) B.a B.it B.hd b fun gw Y qP fH kr j3 mZ C8=>k gw Y qP fH (B.mo.trans kr) (B.g.trans j3) mZ C8
theorem Q6{b1 b2:List bT}{I:ah}{bC:List ah}{s₀:aB}{Q:VQ gF}(hh:A.handled=none)(f:bJ C A env outer)(es:j4 C env kd ν)(ht:qk kd ν t tx=true)
  (hb:∀{lm H fl aI H'},Bd lm H fl aI H'→S6 C A env ν lm H fl aI H' (PySem.execs b1 env)) (ho:∀{lm H fl aI H'},El lm H fl aI H'→S6 C A env ν lm H fl aI H' (PySem.execs b2 env))
  (P:jg C env ν bC s₀ fl aI H' Q E) (sL:I∉f9 env) (yY:I≠env.locals) (Ad:∀p∈C.X,p.1≠I) {n:Nat} {s:aB} (hI:Wy C env ν l xs H₀ t Bd El I fl aI H' bC s₀ n s):
  codeAny (model PG C.w) A (.forLoop tx (.ref I) b1 b2 env) (fun r s'=>match r with|.ok fl=>Q fl s'|.error e=>cameBackBy (model PG C.w) A env E e s') s:=by
 refine codeAny_forLoop_any (Wy C env ν l xs H₀ t Bd El I fl aI H' bC s₀) ?_ n hI;clear hI n s
 rintro n s ⟨i,m,X,ρ,lm,H,oI,Ab,B,d⟩
 cases Ab with
 |nil=>
  haveI ap:=B.a.pop (C:=C.st m X) sL yY;exact xA (C:=(C.st m X).aM ((I,oI)::X)) hh B.a.now (.head _) B.it (Nat.le_antisymm (FW.mp B.hd) B.le) fun s' n' o gg=>
   ho d m X B.mo.fs ρ s' ⟨n'.qp fun q hq=>dG.mpr ⟨.tail _ hq,bN (B.ne Ad q hq)⟩,ap.lr,ap.ce⟩ _ _ (P.Nc f B.mo (B.g.trans ⟨dz,o,gg⟩))
 |cons v Ab=>
  refine bE d fun iZ b d=>B.turn hh es ht sL yY Ad b fun gw Y qP fH kr j3 mZ C8=>?_;rcases d with d|d
  ·refine jZ d fun oQ uW h k q=>hb h gw ((I,qP)::Y) kr.fs ρ fH mZ _ _ fun kK vY iF iz qW jD gK mY r=>Mo.top (C:=C.st gw Y) (q:=(I,qP)) sL jD fun Z hZ iS=>?_;subst hZ;cases r;have lt:i<xs.length:=Nat.lt_of_not_le fun q=>by have:=B.hd;rw[C1 q]at this;cases this
   exact⟨Ab.length,by rw[B.hn];exact Nat.lt_succ_self _,i+1,kK,Z,iF,oQ,uW,qP,Ab,⟨rfl,by rw[←tM,B.hd];rfl,lt,j3.trans gK,kr.trans iS,mY,C8.to gK.p ⟨k.1.trans B.st.1.symm,fun d h=>(k.2 d (B.st.1.symm.trans h)).trans (B.st.2 d (B.st.1.symm.trans h)).symm⟩,k⟩,q⟩
  ·exact bE d fun f0 h e=>hb h gw ((I,qP)::Y) kr.fs ρ fH mZ _ _ (P.stop f e sL yY kr j3 (fun _ h=>h) fun _ _ h=>h)
theorem Zr(hh:A.handled=none)(f:bJ C A env outer)(es:j4 C env kd ν)(ht:qk kd ν t tx=true)(hix:kF ix=true)
  (h:∀{ρ},LR C env ν ρ lm→Sm C A ρ VR H (.loc l) H1 (PySem.eval ix env)) (w:Wk H1 l xs)
  (hb:∀{lm H fl aI H'},Bd lm H fl aI H'→S6 C A env ν lm H fl aI H' (PySem.execs b1 env)) (ho:∀{lm H fl aI H'},El lm H fl aI H'→S6 C A env ν lm H fl aI H' (PySem.execs b2 env))
  (d:Tn Bd t (gW H1 l) xs lm H1 r gV H2) (e:CT El r gV H2 fl aI H'):mX C A env ν lm H fl aI H' (PySem.exec (.For tx ix b1 b2 pos) env):=fun ρ s a _ _ P=>
 wpAny_For (a.ev h fun aD s₁ u g eO hu=>nF eO.now hu w fun oI bM dX ja it₂=>by
  haveI Ad:=eO.now.fresh;haveI sL:s₁.heap.objs.size∉f9 env:=fun hc=>(eO.ce.at_ _ hc).elim fun o' h=>h.elim fun v' h=>Ad _ h.1 rfl;haveI yY:s₁.heap.objs.size≠env.locals:=by
   rw[es.loc];exact dX.pV (p:=(s₁.heap.objs.size,oI)) (.head _)
  exact Q6 hh f es ht hb ho P sL yY Ad ⟨0,C.m,C.X,aD,lm,H1,oI,xs,⟨rfl,rfl,Nat.zero_le _,g.trans ja,.refl env C,eO.push dz dX,it₂,.refl _ _⟩,d El fl aI H' e⟩) (fun x=>kX hix x)
def Lz(T:LM→Hp→Bool→Hp→Prop)(Bd El:LM→Hp→Fl→LM→Hp→Prop)(fl:Fl)(aI:LM)(H':Hp):Nat→LM→Hp→Prop
 |0,_,_=>False
 |n+1,lm,H=>(∃H1,T lm H false H1∧El lm H1 fl aI H')∨∃H1,T lm H true H1∧((∃gV H2,Bd lm H1 .next gV H2∧Lz T Bd El fl aI H' n gV H2)∨∃f0,Bd lm H1 f0 aI H'∧f0.stp=some fl)
def Lp(T:LM→Hp→Bool→Hp→Prop)(Bd:LM→Hp→Fl→LM→Hp→Prop)(n:Nat)(lm:LM)(H:Hp)(r:Option Fl)(gV:LM)(H2:Hp):Prop:=
 ∀(El:LM→Hp→Fl→LM→Hp→Prop)(fl:Fl)(aI:LM)(H':Hp),CT El r gV H2 fl aI H'→Lz T Bd El fl aI H' n lm H
section
variable{T:LM→Hp→Bool→Hp→Prop}{Bd:LM→Hp→Fl→LM→Hp→Prop}{n:Nat}{f0:Fl}{r:Option Fl}
theorem Lp.done(h:T lm H false H1):Lp T Bd (n+1) lm H none lm H1:=fun El fl l h' e=>by cases e with|els k=>exact .inl ⟨H1,h,k⟩
theorem Lp.next(h:T lm H true H1)(b:Bd lm H1 .next gV H2)(q:Lp T Bd n gV H2 r aI H'):Lp T Bd (n+1) lm H r aI H':=fun El fl l h' e=>.inr ⟨H1,h,.inl ⟨gV,H2,b,q El fl l h' e⟩⟩
theorem Lp.stop(h:T lm H true H1)(b:Bd lm H1 f0 gV H2)(e:f0.stp=some fl):Lp T Bd (n+1) lm H (some fl) gV H2:=fun El fl l h' z=>by cases z;exact .inr ⟨H1,h,.inr ⟨f0,b,e⟩⟩
end
inductive WhI(C:Cx)(env:Env)(ν:Slots)(T:LM→Hp→Bool→Hp→Prop)(Bd El:LM→Hp→Fl→LM→Hp→Prop)(fl:Fl)(aI:LM)(H':Hp)(bC:List ah)(s₀:aB)(n:Nat)(s:aB):Prop
 |mk (m:Lo) (X:Led) (ρ:List ah) (lm:LM) (H:Hp) (g:Go bC ρ s₀ s) (mo:Mo env C m X) (a:At (C.st m X) env ν ρ lm H s) (d:Lz T Bd El fl aI H' n lm H)
theorem jg.aaE(f:bJ C A env outer)(e:f0.stp=some fl)(P:jg C env ν bC s₀ fl aI H' Q E)(mo:Mo env C m X)(g:Go bC ρ s₀ s)(q1:∀s,Q .next s→Q'' .brk s)(q2:∀u s,Q (.ret u) s→Q'' (.ret u) s):
  jg (C.st m X) env ν ρ s f0 aI H' Q'' (notedBy (model PG C.w) A env fun e s'=>cameBackBy (model PG C.w) A env E e s'):=by
 cases f0 with
 |next=>cases e
 |brk=>cases e;exact fun kK vY iF iz qW jD gK mY r=>by cases r;exact q1 _ (P kK vY iF iz _ (mo.trans jD) (g.trans gK) mY rfl)
 |ret u=>cases e;exact fun kK vY iF iz qW jD gK mY r=>r.elim fun u' hu=>by rw[hu.1];exact q2 _ _ (P kK vY iF iz _ (mo.trans jD) (g.trans gK) mY ⟨u',rfl,hu.2⟩)
 |exc k=>cases e;exact(P.Nc (fl:=.exc k) f mo g:_)
theorem Q7(f:bJ C A env outer)(ht:∀{lm H b H' m X ρ},T lm H b H'→m.fs=C.m.fs→LR (C.st m X) env ν ρ lm→Sm (C.st m X) A ρ B1 H b H' (isTrue tx env (PySem.eval tx env)))
  (hb:∀{lm H fl aI H'},Bd lm H fl aI H'→S6 C A env ν lm H fl aI H' (PySem.execs b1 env)) (ho:∀{lm H fl aI H'},El lm H fl aI H'→S6 C A env ν lm H fl aI H' (PySem.execs b2 env))
  (d:Lp T Bd n lm H r gV H2) (e:CT El r gV H2 fl aI H'):mX C A env ν lm H fl aI H' (PySem.exec (.While tx b1 b2 pos) env):=fun ρ s a Q E P=>by
 refine wpAny_While (codeAny_whileLoop (WhI C env ν T Bd El fl aI H' ρ s) ?_ n ⟨C.m,C.X,ρ,lm,H,.refl ρ s,.refl env C,a,d El fl aI H' e⟩);clear d e
 rintro n s₁ ⟨m,X,aD,kR,jL,g,mo,eO,d⟩
 cases n with
 |zero=>exact d.elim
 |succ n=>
  rcases d with d|d
  ·refine bE d fun H1 h e=>ht h mo.fs eO.lr s₁ eO.now _ _ fun cE bM b ja dX hb'=>?_;rw[show b=false from hb'];exact ho e m X mo.fs cE bM (eO.mono ja.p dX) _ _ (P.Nc f mo (g.trans ja))
  ·refine bE d fun H1 h d=>ht h mo.fs eO.lr s₁ eO.now _ _ fun cE bM b' ja dX hb'=>?_;rw[show b'=true from hb'];rcases d with d|d
   ·exact qU d fun gV H2 b q=>hb b m X mo.fs cE bM (eO.mono ja.p dX) _ _ fun kK vY iF iz qW jD gK mY r=>by
     cases r;exact⟨_,Nat.lt_succ_self _,kK,vY,iF,_,_,g.trans (ja.trans gK),mo.trans jD,mY,q⟩
   ·exact bE d fun f0 b e=>hb b m X mo.fs cE bM (eO.mono ja.p dX) _ _ (P.aaE f e mo (g.trans ja) (fun _ h=>h) fun _ _ h=>h)
end
section
variable{C:Cx}{A:aG}{env:Env}{outer:List Env}{ν:Slots}{kd:cK}{m:Lo}{X X':Led}{ρ:List ah}{lm iZ gV aI:LM}{H H1 H2 H3 H':Hp}{s:aB}{fl:Fl}{E:VQ Value}{u v w:AV}
noncomputable def EJ:Ex→Str
 |.value=>av "ValueError" |.type=>av "TypeError" |.jm=>av "NotImplementedError"
theorem aaF(w:bz)(k:Ex):nsIn (KK w) mainGlobals (EJ k)=some none∧bootBuiltins (EJ k)=some (.type (CC k))∧EJ k≠ "__name__" ∧(EJ k==("__debug__" :Str))=false:=by
 cases k<;>exact⟨rfl,by decide+kernel,by decide+kernel,by decide+kernel⟩
theorem BC(b:qS adq s.heap)(ok:fy env kd)(hk:env.kindOf (EJ k)=some .globalImplicit)(h:Q (.type (CC k)) s):wpAny M A (PySem.eval (.Name (EJ k) p) env) Q E s:=by
 refine XJ (b.T) fun mg mb T=>?_;refine vU (aaF adq k) fun e1 e2 e3 e4=>?_;refine Gq ok.fn hk ?_ e4;exact Gs (by exact aa ok.gl T.g) (Gp b.X T.g e1) (by exact aa ok.bu T.b) ((T.builtins _ e3).trans e2) h
theorem lI(hs:cX x=false)(h:wpAny M A (PySem.eval x env) (fun v s'=>Q [v] s') E s):wpAny M A (spliced (backTo pos (starEach [x] env))) Q E s:=by
 refine aa (lH hs) ?_;show wpAny M A (do let v ←PySem.eval x env;let here ←jU [v];return here++(←holding here (spliced (backTo pos (starEach [] env))))) Q E s
 refine af (eV h (fun v s' h'=>?_) fun _ _ x=>x);exact af (aE (af (dB (Calls.spliced_nil (aE h')))))
theorem Ig{w:bz}(hh:A.handled=none)(hs:cX ax=false)
  (h:wpAny (model PG w) A (PySem.eval (.Name (EJ k) np) env) (fun f s₁=>f=.type (CC k)∧wpAny (model PG w) A (PySem.eval ax env) (fun v bM=> ∀h' e,Heap.MadeExcOf bM.heap h' e (.type (CC k)) [v]→E (.ref e) {bM with heap:=h'}) E s₁) E s):
  wpAny (model PG w) A (PySem.exec (.Raise (some (.Call (.Name (EJ k) np) [ax] [] CU)) none pos) env) Q E s:=by
 have hst:(backTo CU (starEach [ax] env)).any (·.1)=false:=eu (env:=env) (by simp[hs]) CU;haveI key:∀{newId PX:String}(F:ExcCallFacts (CC k) newId PX)(G:ExcRaiseFacts (CC k)),wpAny (model PG w) A (PySem.exec (.Raise (some (.Call (.Name (EJ k) np) [ax] [] CU)) none pos) env) Q E s:=by
  intro newId PX F G;refine wpAny_Raise_call F G hh hst (eV h (fun f s₁ iL=>⟨iL.1,?_⟩) fun _ _ x=>x);refine iW hst ?_;refine lI hs (eV iL.2 (fun v bM qV=>?_) fun _ _ x=>x);exact⟨rfl,(by decide:1≤sizeLine),fun h' e hm=>qV h' e hm.of⟩
 cases k
 ·exact key PySem.F.excCall_ValueError PySem.F.excRaise_ValueError
 ·exact key PySem.F.excCall_TypeError PySem.F.excRaise_TypeError
 ·exact key PySem.F.excCall_NotImplementedError PySem.F.excRaise_NotImplementedError
theorem Q8(B:qS C.w C.g)(hh:A.handled=none)(f:bJ C A env outer)(ok:fy env kd)(hs:cX ax=false)(hk:env.kindOf (EJ k)=some .globalImplicit)(h:∀{ρ},LR C env ν ρ lm→Sm C A ρ VR H v H1 (PySem.eval ax env)):
  mX C A env ν lm H (.exc k) lm H1 (PySem.exec (.Raise (some (.Call (.Name (EJ k) np) [ax] [] CU)) none pos) env):=fun ρ s a _ _ P=>
 Ig hh hs (BC (a.now.jl B) ok hk ⟨rfl,a.ev h fun aD s₁ u g eO hu h' x hm=>P C.m C.X aD _ x (.refl env C) (g.trans (.toks aD s₁ _ _)) ⟨f.made eO.now hm,eO.lr,eO.ce⟩⟩)
theorem uK(V9:A.frames=some (env::outer))(hf:env.frame=some L)(x:qD B (env::outer) L e cls s.heap)
  (hQ:∀h' a0,Heap.FlyingW B (env::outer) e cls a0 h'→s.heap.UpToSlots h'→Q () {s with heap:=h'}):wpAny M A (noteFrame (.ref e) env) (fun _ bM=>wpAny M A (setFlight (.ref e) none) Q E bM) E s:=
 pH V9 hf x fun _ a0 y z=>wpAny_landsW y fun qV J5 MQ=>hQ qV a0 J5 (z.trans MQ)
theorem Du(k:Ex):isSubtype (.type (CC k)) (.type "BaseException")=pure true∧isSubtype (.type ((O3 (CC k)).elim "type" fun y=>y.metatype)) (.type "tuple")=pure false:=by
 cases k
 ·exact⟨PySem.F.isExc_ValueError,PySem.F.notTuple_ValueError⟩
 ·exact⟨PySem.F.isExc_TypeError,PySem.F.notTuple_TypeError⟩
 ·exact⟨PySem.F.isExc_NotImplementedError,PySem.F.notTuple_NotImplementedError⟩
theorem PY(k x:Ex):isSubtype (.type (CC k)) (.type (CC x))=pure (decide (x=k)):=by
 cases k<;>cases x<;>(rw[qx];with_unfolding_all kernel_rfl)
def Hd(Bd:SL→LM→Hp→Fl→LM→Hp→Prop)(k:Ex)(hl:HL)(lm:LM)(H:Hp)(fl:Fl)(aI:LM)(H':Hp):Prop:=∀P:HL→Prop,
 (∀{b r},Bd b lm H fl aI H'→P (.cons k b r))→(∀{x b r},x≠k→P r→P (.cons x b r))→P hl
theorem Hd.is(h:Bd b lm H fl aI H'):Hd Bd k (.cons k b r) lm H fl aI H':=fun P a c=>a h
theorem Hd.no(n:x≠k)(h:Hd Bd k r lm H fl aI H'):Hd Bd k (.cons x b r) lm H fl aI H':=fun P a c=>c n (h P a c)
def MR(C:Cx)(A:aG)(env:Env)(ν:Slots)(Bd:SL→LM→Hp→Fl→LM→Hp→Prop):HL→List kN→Prop
 |.nil,_=>True
 |.cons x b r,hs=> ∃np pos TF bs IJ,hs=.ExceptHandler (some (.Name (EJ x) np)) none (TF::bs) pos::IJ∧env.kindOf (EJ x)=some .globalImplicit∧
  (∀(e:ah){lm H fl aI H'},Bd b lm H fl aI H'→S6 C (A.mark (some (.ref e))) env ν lm H fl aI H' (PySem.execs (TF::bs) env))∧MR C A env ν Bd r IJ
theorem Ld(Bs:qS C.w C.g)(f:bJ C A env outer)(ok:fy env kd)(d:Hd Bd k hl lm H fl aI H')(hm:m.fs=C.m.fs)
  (S:St C.g C.L m s.heap N) (D:HX C.w ρ H X N) (bg:iA s.gens) (gB:C.g.StaysIn B) (NB:∀q∈N,B.get? q.1=some q.2) (F:Heap.FlyingW B (env::outer) a (.type (CC k)) a0 s.heap) (lr:LR (C.st m X) env ν ρ lm) (ce:pQ env X)
  (P:jg (C.st m X) env ν ρ s fl aI H' Q E):∀{hs:List kN},MR C A env ν Bd hl hs→wpAny (model PG C.w) A (handleBy (.ref a) env hs) Q E s:=by
 have bs:qS C.w s.heap:=Bs.keeps fun b o q=>S.fr.keep b o q;obtain⟨ob,IG,E6⟩:=F.there;intro hs rel;refine d (fun hl=> ∀{hs:List kN},MR C A env ν Bd hl hs→wpAny (model PG C.w) A (handleBy (.ref a) env hs) Q E s) (fun{b r} h hs rel=>?_) (fun{x b r} n ih hs rel=>?_) rel
 ·obtain⟨np,pos,TF,bs',IJ,rfl,hk,hb,q⟩:=rel;refine iK (Du k) fun f1 f2=>?_;refine Fo (X:=CC k) (T:=CC k) (b:=decide (k=k)) f1 f2 (PY k k) ?_;refine BC bs ok hk ⟨rfl,⟨ob,IG,E6⟩,?_⟩;refine aa (aF (by simp)) (lands_againW F fun h' fl' up=>?_);refine hb a h m X hm ρ {s with heap:=h'} ⟨⟨N,S.upTo gB NB fl'.1 up,D,bg⟩,lr,ce⟩ _ _ ?_;have P':=P.go (s₁:={s with heap:=h'}) (.toks ρ s _ _);cases fl with
  |exc k'=>exact fun m' X' aV s' e mo g a=>xB (f.st (m:=m') (X:=X') (mo.fs.trans hm)) rfl a.x fun j8 g' hx=>P' m' X' aV j8 e mo (g.trans g') ⟨hx,a.lr,a.ce⟩
  |_=>exact P'
 ·obtain⟨np,pos,TF,bs',IJ,rfl,hk,hb,q⟩:=rel;refine iK (Du x) fun f1 f2=>?_;refine Fo (X:=CC k) (T:=CC x) (b:=decide (x=k)) f1 f2 (PY k x) ?_;refine BC bs ok hk ⟨rfl,⟨ob,IG,E6⟩,?_⟩;exact aa (au (by simpa using n)) (ih q)
theorem Zt(hf:∀k,fl≠.exc k)(h:mX C A env ν lm H fl aI H' (PySem.execs b env)):mX C A env ν lm H fl aI H' (PySem.exec (.Try b (h₀::hs) [] [] pos) env):=fun ρ s a Q E P=>by
 refine FD (h ρ s a _ _ ?_);cases fl with
 |next=>exact fun m X aV s' f mo g a r=>by cases r;exact wpAny_execs_nil (P m X aV s' _ mo g a rfl)
 |brk=>exact fun m X aV s' f mo g a r=>by cases r;exact P m X aV s' _ mo g a rfl
 |ret v=>exact fun m X aV s' f mo g a r=>by obtain⟨u,rfl,hu⟩:=r;exact P m X aV s' _ mo g a ⟨u,rfl,hu⟩
 |exc k=>exact absurd rfl (hf k)
theorem UM(Bs:qS C.w C.g)(f:bJ C A env outer)(ok:fy env kd)(h:mX C A env ν lm H (.exc k) iZ H1 (PySem.execs b env))(rel:MR C A env ν Bd hl (h₀::hs))(d:Hd Bd k hl iZ H1 fl aI H'):
  mX C A env ν lm H fl aI H' (PySem.exec (.Try b (h₀::hs) [] [] pos) env):=fun ρ s a Q E P=>
 FD (h ρ s a _ _ fun m X aV s' e mo g ax=>by
  obtain⟨N,B,S,D,bg,gB,NB,F⟩:=ax.x;rw[show(C.st m X).fr=env::outer from f.fs]at F;refine uK (f.frames.trans (aR some f.fs)) f.fr F fun h' a0 fl up=>?_;exact Ld (m:=m) (X:=X) (s:={s' with heap:=h'}) Bs f ok d mo.fs (S.upTo gB NB fl.1 up) D bg gB NB fl ax.lr ax.ce (P.later mo (g.trans (.toks aV s' _ _))) rel)
end
section
variable{C:Cx}{A:aG}{env:Env}{outer:List Env}{ν:Slots}{kd:cK}{m:Lo}{X X':Led}{ρ:List ah}{lm iZ gV aI:LM}{H H1 H2 H3 H':Hp}{s:aB}{fl:Fl}{E:VQ Value}{u v w:AV}
theorem Zu{D Cl:ah}(n:bf (C.aM (T++(D,oD)::C.X)) ρ H s)(hT:(Cl,oL)∈T)(hD:sZ ρ ys oD)(ads:Cl≠D)(hDX:∀q∈C.X,q.1≠D):
  bf (C.aM ((Cl,oL)::C.X)) (ρ++[D]) (H++[.list ys]) s:=by
 haveI dX:bf (C.aM ((D,oD)::(Cl,oL)::C.X)) ρ H s:=n.qp fun p hp=>by
  rcases bw.mp hp with rfl|hp
  ·exact cU _ (.head _)
  ·rcases bw.mp hp with rfl|hp
   ·exact dD _ hT
   ·exact cU _ (.tail _ hp)
 refine jZ (hD) fun ws k fF h1 h2=>?_;subst fF;haveI jx:=dX.take (X:=(D,⟨.type "list",none,.seq ws k, #[]⟩)::(Cl,oL)::C.X) rfl (.head _) (o:=.list ys) ⟨h2,ws,k,rfl,h1⟩;exact jx.qp (X:=(Cl,oL)::C.X) fun p hp=>dG.mpr ⟨.tail _ hp,bN (by
  rcases bw.mp hp with rfl|hp
  ·exact ads
  ·exact hDX p hp)⟩
theorem Ih{elt:aQ}{i:Nat}(es:j4 C env kd ν)(hk:kd.lookup tn=some .local∨kd.lookup tn=some .cell)(om:ν.lookup tn=some i)(hp:vF (.ListComp elt gens scope CU) tn tp kd=true)
  (h:∀{ρ},LR C env ν ρ lm→CW C A ρ env H ys H1 elt gens scope CU):mX C A env ν lm H .next (upd lm i (.loc H1.length)) (H1++[.list ys]) (PySem.exec (.Assign [.Name tn tp] (.ListComp elt gens scope CU) pos) env):=fun ρ s a Q E P=>by
 refine aa (exec_Assign_Name_used (hs:=qH (b:=true) es.ok hp)) (af (gz (af ?_)));show wpAny _ A (Ww elt gens scope CU env (some (assign (.Name tn tp) env))>>=fun _=>jU PUnit.unit) _ _ s;refine af (h a.lr (some (assign (.Name tn tp) env)) _ E s a.now fun aV s' D Cl g ce=>?_);obtain⟨T,oD,oL,vm,ep,n,hT,hd,hks,hD,h1,h2,h3⟩:=ce;haveI n₁:=Zu n hT hD h1 h3;haveI X0:Cl∉f9 env:=fun hc=>(a.ce.at_ _ hc).elim fun o' h=>h.elim fun v' h=>h2 _ h.1 rfl;haveI ab7:Cl≠env.locals:=by
  exact aa es.loc (n₁.pV (p:=(Cl,oL)) (.head _))
 haveI g':Go ρ (aV++[D]) s s':=⟨g.p.trans (fJ ..),g.o,g.g⟩;show wpAny (model PG C.w) A (assign (.Name tn tp) env (.ref D)) _ E s';refine pI (C:=C.aM ((Cl,oL)::C.X)) (es.st (m:=C.m) (X:=(Cl,oL)::C.X)) hk om (a.push g'.p n₁) n.vr fun m' X' j8 mo ja a'=>?_;refine Mo.top (q:=(Cl,oL)) X0 mo fun Y hY sJ=>?_;subst hY;refine⟨nsFind vm,M6 (a'.now.extra (p:=(Cl,oL)) (.head _)) hd hks,fun h' hs=>aE (aE ?_)⟩;haveI dX:=a'.now.Wv (s':={j8 with heap:=h'}) (a:=Cl) (o:=oL) (.head _) (jr hs) rfl;haveI jx:bf (C.st m' Y) (aV++[D]) (H1++[.list ys]) {j8 with heap:=h'}:=dX.qp fun p hp=>dG.mpr ⟨.tail _ hp,bN fun e=>by
  haveI:p.1∈C.X.map (·.1):=sJ.xt.keys▸dF hp;refine bE (bX.mp this) fun r hr JM=>?_;exact h2 r hr (JM.trans e)⟩
 exact P m' Y _ _ _ sJ (g'.trans (ja.trans (.toks _ j8 _ _))) ⟨jx,(a'.pop (C:=C.st m' Y) X0 ab7).lr,(a'.pop (C:=C.st m' Y) X0 ab7).ce⟩ rfl
end
theorem Lg:∀{r:List (Str×Value)}{m:Str→Option Value},x∉r.map (·.1)→bindL k r m x=m x:=by
 intro r
 induction r with
 |nil=>exact fun _=>rfl
 |cons p r ih=>
  intro m h;refine(ih fun q=>h (.tail _ q)).trans ?_
  by_cases q:k p.1=some .local
  ·exact(congrFun (aF q) x).trans (au fun(e:x=p.1)=>h (e▸ .head _))
  ·exact congrFun (au q) x
theorem Lh:∀{r:List (Str×Value)}{m:Str→Option Value},x∉r.map (·.1)→bindC k r m x=m x:=by
 intro r
 induction r with
 |nil=>exact fun _=>rfl
 |cons p r ih=>
  intro m h;refine(ih fun q=>h (.tail _ q)).trans ?_
  by_cases q:k p.1=some .local
  ·exact congrFun (aF q) x
  ·exact(congrFun (au q) x).trans (au fun(e:x=p.1)=>h (e▸ .head _))
theorem Q9:∀{r:List (Str×Value)}{m:Str→Option Value},(r.map (·.1)).Nodup→(x,u)∈r→k x=some .local→bindL k r m x=some u:=by
 intro r
 induction r with
 |nil=>exact fun _ h=>nx h
 |cons p r ih=>
  intro m hn hm hk;replace hn:=dO.mp hn;rcases bw.mp hm with e|hm
  ·subst e;exact(Lg hn.1).trans ((congrFun (aF hk) x).trans (aF rfl))
  ·exact ih hn.2 hm hk
theorem Rf:∀{r:List (Str×Value)}{m:Str→Option Value},(r.map (·.1)).Nodup→(x,u)∈r→k x≠some .local→bindC k r m x=some u:=by
 intro r
 induction r with
 |nil=>exact fun _ h=>nx h
 |cons p r ih=>
  intro m hn hm hk;replace hn:=dO.mp hn;rcases bw.mp hm with e|hm
  ·subst e;exact(Lh hn.1).trans ((congrFun (au hk) x).trans (aF rfl))
  ·exact ih hn.2 hm hk
theorem Ce(h:CellsAre cm cs cells):(∀p∈cs,∃o,(p.2,o)∈cells∧o.data=.cell (cm p.1))∧cells.map (·.1)=cs.map (·.2):=by
 induction h with
 |nil=>exact⟨fun _ h=>(nx h),rfl⟩
 |cons hd _ ih=>
  refine⟨fun p hp=>?_,by simp[ih.2]⟩;rcases bw.mp hp with rfl|hp
  ·exact⟨_,.head _,hd⟩
  ·refine bE (ih.1 p hp) fun o h1 h2=>?_;exact⟨o,.tail _ h1,h2⟩
theorem St.out(S:St g L' m' h N)(e:m'.fs=(L,m.loc)::m.fs)(ab:g.objs.size≤L)(nd:(L::m.fs.map (·.1)).Nodup):St g L m h N:=by
 have H:=S.fs (L,m.loc) (e▸ .head _);refine⟨⟨H.1,S.fr.keep,ab⟩,fun p hp=>⟨(S.nw p hp).1,fun q=>H.2.2.1 (q▸dF (f:=je) hp),(S.nw p hp).2.2⟩,S.nd,S.big,S.low,fun p hp=>?_⟩;refine vU (S.fs p (e▸ .tail _ hp)) fun h1 _ h3 h4=>?_;exact⟨h1,fun q=>(dO.mp nd).1 (q▸dF (f:=je) hp),h3,h4⟩
structure Xi(w:bz)(a:ah)(fd:wO)(body:List bT)(ν:Slots):Prop where
 ob:∃o,(KK w).lookup a=some o∧o.data=.func fd
 code:∃c o vs t,fd.code=.ref c∧(KK w).lookup c=some o∧o.data=.fields vs∧vs[1]? =some (.str fd.qualname t)
 body:fd.body=.stmts body
 clo:fd.closure=[]
 gl:fd.globals=mainGlobals
 bu:fd.builtins=builtinsNs
 fn:fd.scope.kind=.function
 co:fd.scope.isCoroutine=false
 BD:((cellsFrom 0 fd.scope.names []).map (·.1)).Nodup
 xD:∀n,fd.scope.names.lookup n=some .cell→n∈(cellsFrom 0 fd.scope.names []).map (·.1)
 Hh:∀n,fd.scope.names.lookup n≠some .free
 ni:∀x y (i:Nat),ν.lookup x=some i→ν.lookup y=some i→x=y
section
variable{C:Cx}{A:aG}{env:Env}{outer:List Env}{ν:Slots}{m:Lo}{X:Led}{ρ:List ah}{H:Hp}{s:aB}
noncomputable abbrev aaG(fd:wO)(L a:ah):Env:=newEnv fd.scope L fd.globals (cellsFrom (L+1) fd.scope.names []) (fd.qualname++ ".<locals>.") (some a) fd.code none fd.builtins
noncomputable def Cx.callee(C:Cx)(aY:Env)(m':Str→Option Value)(L':ah)(X':Led):Cx:=
 {w:=C.w,g:=C.g,L:=L',m:=⟨m',(C.L,C.m.loc)::C.m.fs⟩,X:=X',fr:=aY::C.fr}
theorem x8(n:Nat)(names:cK):(cellsFrom n names []).map (·.1)=(cellsFrom 0 names []).map (·.1):=(cellsFrom_names names 0 n [] [] rfl).symm
theorem yR:∀{l:List (Str×β)},x∈l.map (·.1)→(l.lookup x).isSome=true:=by
 intro rv
 induction rv with
 |nil=>
  intro h;cases h
 |cons p_ l ih=>
  obtain⟨y,b⟩:=p_;intro h;refine aa jz ?_;cases q:x==y with
  |true=>rfl
  |false=>
   refine ih ?_;rcases bw.mp h with e|h
   ·rw[show x=y from e,beq_self_eq_true]at q;cases q
   ·exact h
structure adt(g:Heap)(fs:List (ah×(Str→Option Value)))(h:Heap)(N:Led):Prop where
 kp:∀b o,g.get? b=some o→h.get? b=some o
 nw:∀p∈N,h.get? p.1=some p.2∧g.get? p.1=none
 nd:(N.map (·.1)).Nodup
 big:421<g.objs.size
 low:∀p∈N,SE p.1
 fs:∀p∈fs,h.Ns p.1 p.2∧p.1∉N.map (·.1)∧g.get? p.1=none
 gsz:g.objs.size≤h.objs.size
def Pre(w:bz)(g:Heap)(fs:List (ah×(Str→Option Value)))(X:Led)(ρ:List ah)(H:Hp)(s:aB):Prop:=∃N,adt g fs s.heap N∧HX w ρ H X N∧iA s.gens
noncomputable def Nf(w:bz)(g:Heap)(fs:List (ah×(Str→Option Value)))(jO:List Env)(aY:Env)(m':Str→Option Value)(L':ah)(X:Led):Cx:=
 {w:=w,g:=g,L:=L',m:=⟨m',fs⟩,X:=X,fr:=aY::jO}
theorem qI{pn:List Str}{lm:LM}{k:Nat}{A₀:aG}{R:Env→aB→Prop}{E:Value→aB→Prop}{w:bz}{g:Heap}{fs:List (ah×(Str→Option Value))}{jO:List Env}{X:Led}(B:qS w g)(outs:bh (fun(e:Env) (p:ah×(Str→Option Value))=>e.frame=some p.1∧e.scope.kind≠.module) jO fs)(fnd:(fs.map (·.1)).Nodup)(F:Xi w a fd body ν)(n:Pre w g fs X ρ H s)
  (IM:bh (VR ρ) full us) (JO:pn.length=full.length) (qQ:pn.Nodup) (jV:∀x∈pn,fd.scope.names.lookup x=some .local∨fd.scope.names.lookup x=some .cell) (Ae:lm=full.map some++nO k none)
  (om:∀x i,ν.lookup x=some i→i<full.length→pn[i]? =some x)
  (h:∀(aY:Env)(C':Cx)(cells:Led)(s':aB)(L':ah)(m':Str→Option Value),C'=Nf w g fs jO aY m' L' (cells++X)→j4 C' aY fd.scope.names ν→(∀A':aG,A'.frames=some (aY::jO)→bJ C' A' aY jO)→At C' aY ν ρ lm H s'→Go ρ ρ s s'→s'.gens=s.gens→s'.heap.NoLimit→(∀c∈f9 aY,∀p∈X,p.1≠c)→(cells.map (·.1)=f9 aY)→R aY s'):
  wpAny (model PG w) A₀ (newFunctionEnv fd.scope fd.globals fd.closure (pn.zip us) (fd.qualname++ ".<locals>.") (some a) fd.code none fd.builtins) R E s:=by
 refine kZ (n) fun N S D bg=>?_;haveI bs:qS w s.heap:=B.keeps S.kp;haveI adu:s.heap.NoLimit:=let⟨_,_,T⟩:=bs.T;T.nolimit;have keyOf:∀n x,fd.scope.names.lookup x=some .cell→((cellsFrom n fd.scope.names []).lookup x).isSome=true:=fun n x hx=>yR (by rw[x8];exact F.xD x hx);haveI zin:∀{x:Str}{u:Value},(x,u)∈pn.zip us→x∈pn:=fun hm=>(List.of_mem_zip hm).1;refine aa F.clo (wpAny_newFunctionEnv_cells F.fn (fun x hx=>?_) fun aY he s' x=>?_)
 ·rcases jV x.1 (zin (u:=x.2) hx)with h1|h1
  ·exact .inl h1
  ·exact .inr ⟨h1,keyOf _ _ h1⟩
 subst he;haveI keep:=x.toInCall.keep;refine qU (x.done) fun iL tk fF _=>?_;subst fF
 let aY:=aaG fd s.heap.objs.size a
 haveI cnd:((cellsFrom (s.heap.objs.size+1) fd.scope.names []).map (·.1)).Nodup:=by rw[x8];exact F.BD
 refine bE (Cl.news (h₀:=s.heap) (h:=iL) (Nat.le_refl _) (cs:=cellsFrom (s.heap.objs.size+1) fd.scope.names []) fun n c hm=>⟨x.cell n c (lookup_of_mem_nodup cnd hm),x.above n c hm⟩) fun cells NC Y=>?_;refine iK (Ce Y) fun ym yk=>?_;have old:∀p∈N,p.1<s.heap.objs.size:=fun p hp=>Heap.lt_size (S.nw p hp).1;have csz:∀p∈cells,s.heap.objs.size<p.1:=fun p hp=>by
  have:p.1∈cells.map (·.1):=dF hp;rw[yk]at this;refine bE (bX.mp this) fun q hq e=>?_;exact ez e (x.above q.1 q.2 hq)
 have aaH:∀p∈cells,g.get? p.1=none:=fun p hp=>by
  refine Heap.get?_none_of_le (Nat.le_trans S.gsz (Nat.le_of_lt (csz p hp)))
 let C':=Nf w g fs jO aY (bindL aY.kindOf (pn.zip us) fun _=>none) s.heap.objs.size (cells++X)
 have S':St g s.heap.objs.size C'.m iL (cells++N):=by
  refine⟨⟨x.toInCall.ns,fun b o e=>keep b o (S.kp b o e),S.gsz⟩,fun p hp=>?_,?_,S.big,fun p hp=>?_,fun p hp=>?_⟩
  ·rcases dc.mp hp with hp|hp
   ·exact⟨(NC p hp).1,(NC p hp).2.1,aaH p hp⟩
   ·exact⟨keep _ _ (S.nw p hp).1,Nat.ne_of_lt (old p hp),(S.nw p hp).2⟩
  ·rw[ic,oH];refine⟨?_,S.nd,fun b hb c hc e=>?_⟩
   ·refine aa yk ?_;haveI ap:=x.apart;exact(zh (f:=wZ)).mpr ap
   ·refine bE (bX.mp hb) fun p hp fF=>?_;subst fF;refine bE (bX.mp hc) fun q hq fF=>?_;subst fF;exact absurd (e▸old q hq) (Nat.not_lt.mpr (Nat.le_of_lt (csz p hp)))
  ·rcases dc.mp hp with hp|hp
   ·exact Wo (Nat.lt_trans (Nat.lt_of_lt_of_le S.big S.gsz) (csz p hp))
   ·exact S.low p hp
  ·have nin:∀{b:ah}{mm:Str→Option Value},s.heap.Ns b mm→b∉N.map (·.1)→b∉(cells++N).map (·.1):=fun{b mm} hb hN hm=>by
    rw[ic]at hm;rcases dc.mp hm with hm|hm
    ·refine bE (bX.mp hm) fun q hq e=>?_;haveI:=csz q hq;rw[show q.1=b from e]at this;exact absurd (zo hb) (Nat.not_lt.mpr (Nat.le_of_lt this))
    ·exact hN hm
   refine vS (S.fs p hp) fun z1 z3 z4=>?_;exact⟨z1.keeps keep,Nat.ne_of_lt (zo z1),nin z1 z3,z4⟩
 have D':HX w ρ H (cells++X) (cells++N):=by
  refine⟨D.len,D.nd,fun l o e=>?_,fun p hp=>?_,fun p hp q=>?_⟩
  ·refine jZ (D.ob l o e) fun b ob z1 z2 z3=>?_;exact⟨b,ob,z1,cU _ z2,z3⟩
  ·rcases dc.mp hp with hp|hp
   ·exact dD _ hp
   ·exact cU _ (D.ext p hp)
  ·rcases dc.mp hp with hp|hp
   ·obtain⟨i,hi,e⟩:=wR q;have VY:i<H.length:=D.len▸hi;refine jZ (D.ob i H[i] (jy VY)) fun b jJ e1 e2 _=>?_;rw[jy hi,e]at e1;cases e1;exact absurd (old _ e2) (Nat.not_lt.mpr (Nat.le_of_lt (csz p hp)))
   ·exact D.sep p hp q
 have Cw:∀y,aY.kindOf y=fd.scope.names.lookup y:=fun y=>rfl;have pnk:(pn.zip us).map (·.1)=pn:=by
  rw[List.map_fst_zip];(refine aa JO (aa IM.length ?_));exact Nat.le_refl _
 have es:j4 C' aY fd.scope.names ν:=by
  refine⟨⟨rfl,F.fn,F.gl,F.bu,F.co⟩,fun n hn=>?_,rfl,fun y z c h1 h2=>name_of_addr x.apart (mem_of_lookup h1) (mem_of_lookup h2),F.ni⟩;rcases hn with hn|hn
  ·exact keyOf _ _ hn
  ·exact absurd hn (F.Hh n)
 have f':∀A':aG,A'.frames=some (aY::jO)→bJ C' A' aY jO:=by
  intro A' hA';refine⟨rfl,hA',rfl,by refine aa (show aY.scope.kind=.function from F.fn) ?_;decide,outs,?_⟩;show(s.heap.objs.size::fs.map (·.1)).Nodup;rw[dO];refine⟨fun hm=>?_,fnd⟩;refine bE (bX.mp hm) fun p hp e=>?_;exact absurd (zo (S.fs p hp).1) (by exact aa (show p.1=s.heap.objs.size from e) (Nat.lt_irrefl _))
 refine h aY C' cells _ s.heap.objs.size _ rfl es f' ⟨⟨_,S',D',bg⟩,fun y i v hy hi=>?_,⟨fun c hc=>?_⟩⟩ (.toks ρ s _ _) rfl (adu.keeps keep) (fun c hc p hp e=>?_) yk
 ·rw[Ae]at hi;have hil:i<full.length:=by
   by_cases q:i<full.length
   ·exact q
   ·rw[FT (by simpa using Nat.le_of_not_lt q),Oc]at hi
    split at hi<;>cases hi
  rw[oF (by simpa using hil),qh]at hi;cases q:full[i]? with
  |none=>rw[q]at hi;cases hi
  |some v'=>
   rw[q]at hi;cases hi;refine bE (IM.get q) fun u hu hr=>?_;have hp:=om y i hy hil;have hm:(y,u)∈pn.zip us:=by
    refine uy (i:=i) ?_;rw[List.getElem?_zip_eq_some];exact⟨hp,hu⟩
   refine⟨u,?_,hr⟩;rcases jV y (uy hp)with hk|hk
   ·exact .fast (Cw y▸hk) rfl (Q9 (by exact aa pnk qQ) hm (Cw y▸hk))
   ·refine eY (zk.mp (keyOf (s.heap.objs.size+1) y hk)) fun c hc=>?_;refine bE (ym (y,c) (mem_of_lookup hc)) fun oc hoc hdc=>?_;refine .cell c oc (.inl (Cw y▸hk)) hc (dD _ hoc) ?_;exact aa hdc (aR Data.cell (Rf (by exact aa pnk qQ) hm (by(refine aa (Cw y) (aa hk ?_));decide)))
 ·refine bE (bX.mp hc) fun p hp fF=>?_;subst fF;refine bE (ym p hp) fun oc hoc hdc=>?_;exact⟨oc,_,dD _ hoc,hdc⟩
 ·refine bE (bX.mp hc) fun q hq fF=>?_;subst fF;have h1:=old p (D.ext p hp);have h2:=x.above q.1 q.2 hq;have S8:s.heap.objs.size<q.2:=h2;rw[e]at h1;exact absurd h1 (Nat.not_lt.mpr (Nat.le_of_lt S8))
theorem qJ{pn:List Str}{lm:LM}{k:Nat}{R:kC→aB→Prop}(B:qS C.w C.g)(f:bJ C A env outer)(hd:A.depth<recursionLimit)(F:Xi C.w a fd body ν)(CV:fd.scope.isGenerator=false)(n:bf C ρ H s)
  (aaI:wQ s fd ⟨as',[]⟩ (pn.zip us)) (IM:bh (VR ρ) full us) (JO:pn.length=full.length) (qQ:pn.Nodup) (jV:∀x∈pn,fd.scope.names.lookup x=some .local∨fd.scope.names.lookup x=some .cell) (Ae:lm=full.map some++nO k none)
  (om:∀x i,ν.lookup x=some i→i<full.length→pn[i]? =some x)
  (h:∀(aY:Env)(cells:Led)(s':aB)(L':ah)(m':Str→Option Value),j4 (C.callee aY m' L' (cells++C.X)) aY fd.scope.names ν→bJ (C.callee aY m' L' (cells++C.X)) (A.deeper aY) aY C.fr→At (C.callee aY m' L' (cells++C.X)) aY ν ρ lm H s'→Go ρ ρ s s'→(∀c∈f9 aY,∀p∈C.X,p.1≠c)→(cells.map (·.1)=f9 aY)→
   wpAny (model PG C.w) (A.deeper aY) (PySem.execs body aY) (fun fl j8=>R (.ok (.ret (match fl with|.ret v=>v|_=>.none))) j8)
    (fun e j8=>wpAny (model PG C.w) (A.deeper aY) (leaving aY e) (fun _ s3=>R (.error e) s3) (fun e' s3=>R (.error e') s3) j8) s'):codeAny (model PG C.w) A (.call (.ref a) ⟨as',[]⟩) R s:=by
 refine bE (F.ob) fun o ho Xb=>?_;haveI bs:=n.jl B;haveI hcd:s.heap.CodeRec fd.code fd.qualname:=by
  refine XK (F.code) fun c oc vs t e1 e2 e3 e4=>?_;exact⟨c,oc,vs,t,e1,bs.X _ _ e2,e3,e4⟩
 haveI P:Pre C.w C.g ((C.L,C.m.loc)::C.m.fs) C.X ρ H s:=by
  obtain⟨N,S,D,bg⟩:=n;refine⟨N,⟨S.fr.keep,fun p hp=>⟨(S.nw p hp).1,(S.nw p hp).2.2⟩,S.nd,S.big,S.low,fun p hp=>?_,Nat.le_trans S.fr.above (Nat.le_of_lt (zo S.fr.ns))⟩,D,bg⟩;rcases bw.mp hp with rfl|hp
  ·refine⟨S.fr.ns,fun hm=>?_,Heap.get?_none_of_le S.fr.above⟩;refine bE (bX.mp hm) fun q hq e=>?_;exact(S.nw q hq).2.1 e
  ·refine vU (S.fs p hp) fun z1 _ z3 z4=>?_;exact⟨z1,z3,z4⟩
 refine NU hd (bs.X _ _ ho) Xb F.co CV F.body hcd (aaI _ _ _ _ ?_);refine qI (fs:=(C.L,C.m.loc)::C.m.fs) (jO:=C.fr) (X:=C.X) B (f.fs▸ .cons ⟨f.fr,f.kind⟩ f.outs) f.nd F P IM JO qQ jV Ae om fun aY C' cells s' L' m' hC es f' a g _ hl Mt hck=>⟨hl,codeAny_func ?_⟩;subst hC;exact h aY cells s' L' m' es (f' _ (Gg f.frames)) a g Mt hck
end
section
variable{C:Cx}{A:aG}{env:Env}{outer:List Env}{ν:Slots}{m:Lo}{X:Led}{ρ:List ah}{H H':Hp}{s:aB}
theorem Jk(f:bJ C A env outer)(ab:C.g.objs.size≤C.L)(Mt:∀c∈f9 aY,∀p∈C.X,p.1≠c)(mo:Mo aY (C.callee aY mm L' (cells++C.X)) m' X')
  (S:St C.g L' m' h N) (D:HX C.w ρ H X' N):St C.g C.L C.m h N∧HX C.w ρ H C.X N:=
 ⟨S.out (m:=C.m) mo.fs ab f.nd,D.len,D.nd,D.ob,fun p hp=>D.ext p (mo.xt.mem (cU _ hp) fun hc=>Mt _ hc p hp rfl),fun p hp=>D.sep p (mo.xt.mem (cU _ hp) fun hc=>Mt _ hc p hp rfl)⟩
noncomputable def Fl.out:Fl→Option AV
 |.next=>some .none|.ret v=>some v|_=>none
structure A8(A:aG)(w:bz)(a:ah)(fd:wO)(body:List bT)(ν:Slots)(ρ:List ah)(as':List Value)(full:List AV)(lm:LM):Prop where
 hd:A.depth<recursionLimit
 fn:Xi w a fd body ν
 go:∀{P:Prop},(∀(us:List Value)(pn:List Str)(k:Nat),(∀s:aB,(KK w).In s.heap→wQ s fd ⟨as',[]⟩ (pn.zip us))→bh (VR ρ) full us→pn.length=full.length→pn.Nodup→(∀x∈pn,fd.scope.names.lookup x=some .local∨fd.scope.names.lookup x=some .cell)→lm=full.map some++nO k none→(∀x i,ν.lookup x=some i→i<full.length→pn[i]? =some x)→P)→P
variable{a:ah}{fd:wO}{body:List bT}{full:List AV}{as':List Value}{lm aI:LM}{fl:Fl}{w:AV}{k:Ex}
theorem Dv(B:qS C.w C.g)(f:bJ C A env outer)(CV:fd.scope.isGenerator=false)(c:A8 A C.w a fd body ν ρ as' full lm)(ho:fl.out=some w)
  (hs:∀aY m' L' X',j4 (C.callee aY m' L' X') aY fd.scope.names ν→bJ (C.callee aY m' L' X') (A.deeper aY) aY C.fr→mX (C.callee aY m' L' X') (A.deeper aY) aY ν lm H fl aI H' (PySem.execs body aY)):Smc C A ρ H w H' (.call (.ref a) ⟨as',[]⟩):=
 fun s n Q E q=>c.go fun us pn k hb IM JO qQ jV Ae om=>qJ B f c.hd c.fn CV n (hb s (n.jl B).X) IM JO qQ jV Ae om fun aY cells s' L' m' es f' a g Mt _=>by
  haveI ab:C.g.objs.size≤C.L:=let⟨_,S,_,_⟩:=n;S.fr.above;have now:∀{m X aV j8},Mo aY (C.callee aY m' L' (cells++C.X)) m X→At ((C.callee aY m' L' (cells++C.X)).st m X) aY ν aV aI H' j8→bf C aV H' j8:=fun mo a=>by
   obtain⟨N,S,D,b⟩:=a.now;exact(Jk f ab Mt mo S D).elim fun S D=>⟨N,S,D,b⟩
  refine hs aY m' L' _ es f' ρ s' a _ _ ?_;cases fl with
  |next=>cases ho;exact fun m X aV j8 f mo g' a' r=>by cases r;exact q aV j8 _ (g.trans g') (now mo a') rfl
  |ret v=>cases ho;exact fun m X aV j8 f mo g' a' r=>by obtain⟨u,rfl,hu⟩:=r;exact q aV j8 u (g.trans g') (now mo a') hu
  |brk=>cases ho
  |exc k=>cases ho
theorem Rg(B:qS C.w C.g)(f:bJ C A env outer)(CV:fd.scope.isGenerator=false)(c:A8 A C.w a fd body ν ρ as' full lm)
  (hs:∀aY m' L' X',j4 (C.callee aY m' L' X') aY fd.scope.names ν→bJ (C.callee aY m' L' X') (A.deeper aY) aY C.fr→mX (C.callee aY m' L' X') (A.deeper aY) aY ν lm H (.exc k) aI H' (PySem.execs body aY)):Sxc C A ρ H k H' (.call (.ref a) ⟨as',[]⟩):=
 fun s n Q E q=>c.go fun us pn k hb IM JO qQ jV Ae om=>qJ B f c.hd c.fn CV n (hb s (n.jl B).X) IM JO qQ jV Ae om fun aY cells s' L' m' es f' a g Mt _=>by
  haveI ab:C.g.objs.size≤C.L:=let⟨_,S,_,_⟩:=n;S.fr.above;refine hs aY m' L' _ es f' ρ s' a _ _ fun m X aV j8 e mo g' a'=>?_;obtain⟨N,Bh,S,D,bg,gB,NB,F'⟩:=a'.x;refine B9 f'.frames f'.fr F' fun h' a0 fl up=>?_;haveI Z:=Jk f ab Mt mo (S.upTo gB NB fl.1 up) D;exact q aV {j8 with heap:=h'} e ((g.trans g').trans (.of dz rfl rfl)) ⟨N,Bh,Z.1,Z.2,bg,gB,NB,Heap.FlyingW.GY fl⟩
end
structure Vw where
 p:Pos
 k:Nat
 nm:Str
 xs:List aQ
 sc:Option gE
noncomputable def PZ:List FL→List aQ
 |[]=>[]
 |g::r=>g.target::g.iter::(g.ifs++PZ r)
noncomputable def vw(x:aQ):Vw:=match x with
 |.BoolOp _ vs p=>⟨p,0, "",vs,none⟩
 |.BinOp l _ r p=>⟨p,0, "",[l,r],none⟩
 |.UnaryOp _ a p=>⟨p,0, "",[a],none⟩
 |.IfExp t a b p=>⟨p,0, "",[t,a,b],none⟩
 |.Dict ks vs p=>⟨p,0, "",ks.filterMap id++vs,none⟩
 |.ListComp e gs sc p=>⟨p,0, "",e::PZ gs,some sc⟩
 |.Compare l _ rs p=>⟨p,0, "",l::rs,none⟩
 |.Call f as _ p=>⟨p,0, "",f::as,none⟩
 |.Constant _ k p=>⟨p,k, "",[],none⟩
 |.Attribute v n p=>⟨p,0,n,[v],none⟩
 |.Subscript v s p=>⟨p,0, "",[v,s],none⟩
 |.Name n p=>⟨p,0,n,[],none⟩
 |.List es p=>⟨p,0, "",es,none⟩
 |.Tuple es k p=>⟨p,k, "",es,none⟩
 |.Slice a b _ p=>⟨p,0, "",a.toList++b.toList,none⟩
 |x=>⟨x.pos,0, "",[],none⟩
noncomputable def pp(x:aQ):Pos:=(vw x).p
noncomputable def hdE(xs:List aQ):aQ:=xs.headD default
noncomputable def kk(i:Nat)(x:aQ):aQ:=hdE ((vw x).xs.drop i)
noncomputable def yF(x:aQ):gE:=(vw x).sc.getD default
noncomputable def nameOf(x:aQ):aQ:=.Name (vw x).nm (vw x).p
noncomputable def lit(a:AV)(x:aQ):aQ:=match a with
 |.int i=>.Constant (.int i) (vw x).k (vw x).p
 |.str s=>.Constant (.str s) (vw x).k (vw x).p
 |.bool b=>.Constant (.bool b) (vw x).k (vw x).p
 |.none=>.Constant .none (vw x).k (vw x).p
 |.glob g=>.Name (kE g) (vw x).p
 |_=>x
mutual
noncomputable def real:E→aQ→aQ
 |.var _,x=>nameOf x
 |.lit a,x=>lit a x
 |.list es,x=>.List (rE es (vw x).xs) (pp x)
 |.tup es,x=>.Tuple (rE es (vw x).xs) (vw x).k (pp x)
 |.jC,x=>.Dict [] [] (pp x)
 |.C3 a b,x=>.Dict [some (real a (kk 0 x))] [real b (kk 1 x)] (pp x)
 |.bin op a b,x=>.BinOp (real a (kk 0 x)) (MZ op) (real b (kk 1 x)) (pp x)
 |.neg a,x=>.UnaryOp .USub (real a (kk 0 x)) (pp x)
 |.cmp op a b,x=>.Compare (real a (kk 0 x)) [wo op] [real b (kk 1 x)] (pp x)
 |.not a,x=>.UnaryOp .Not (real a (kk 0 x)) (pp x)
 |.and a b,x=>.BoolOp .And [real a (kk 0 x),real b (kk 1 x)] (pp x)
 |.or a b,x=>.BoolOp .Or [real a (kk 0 x),real b (kk 1 x)] (pp x)
 |.or3 a b c,x=>.BoolOp .Or [real a (kk 0 x),real b (kk 1 x),real c (kk 2 x)] (pp x)
 |.ite t a b,x=>.IfExp (real t (kk 0 x)) (real a (kk 1 x)) (real b (kk 2 x)) (pp x)
 |.attr o a,x=>.Attribute (real o (kk 0 x)) (attrS a) (pp x)
 |.clsName o,x=>.Attribute (.Attribute (real o (kk 0 (kk 0 x))) (av "__class__") (pp (kk 0 x))) (av "__name__") (pp x)
 |.sub o i,x=>.Subscript (real o (kk 0 x)) (real i (kk 1 x)) (pp x)
 |.upTo o k,x=>.Subscript (real o (kk 0 x)) (.Slice none (some (real k (kk 0 (kk 1 x)))) none (pp (kk 1 x))) (pp x)
 |.all o,x=>.Subscript (real o (kk 0 x)) (.Slice none none none (pp (kk 1 x))) (pp x)
 |.from o k,x=>.Subscript (real o (kk 0 x)) (.Slice (some (real k (kk 0 (kk 1 x)))) none none (pp (kk 1 x))) (pp x)
 |.call f as,x=>.Call (real f (kk 0 x)) (rE as ((vw x).xs.drop 1)) [] (pp x)
 |.cQ o m as,x=>.Call (.Attribute (real o (kk 0 (kk 0 x))) (oM m) (pp (kk 0 x))) (rE as ((vw x).xs.drop 1)) [] (pp x)
 |.o9 a b,x=>.Call (.Attribute (.Name (av "list") (pp (kk 0 (kk 0 x)))) (av "__init__") (pp (kk 0 x))) [real a (kk 1 x),real b (kk 2 x)] [] (pp x)
 |.comp e _ it,x=>.ListComp (real e (kk 0 x)) [⟨nameOf (kk 1 x),real it (kk 2 x),[],0⟩] (yF x) (pp x)
 |.fm e _ it c,x=>.ListComp (real e (kk 0 x)) [⟨nameOf (kk 1 x),real it (kk 2 x),[real c (kk 3 x)],0⟩] (yF x) (pp x)
 |.zm e _ it _ it₂,x=>.ListComp (real e (kk 0 x)) [⟨nameOf (kk 1 x),real it (kk 2 x),[],0⟩,⟨nameOf (kk 3 x),real it₂ (kk 4 x),[],0⟩] (yF x) (pp x)
noncomputable def rE:EL→List aQ→List aQ
 |.nil,_=>[]
 |.cons e r,xs=>real e (hdE xs)::rE r (xs.drop 1)
end
structure Gm where
 kd:cK
 ν:Slots
 hd:Bool
noncomputable def aaJ(G:Gm)(i:Nat)(x:aQ):Bool:=lq (vw x).nm&&decide (G.ν.lookup (vw x).nm=some i)
noncomputable def Hi(G:Gm)(g:Gl):Bool:=XO g&&(decide (G.kd.lookup (kE g)=some .globalImplicit)&&lq (kE g))
noncomputable def litOk(G:Gm)(a:AV):Bool:=match a with
 |.glob g=>Hi G g
 |.loc _=>false|.CB _=>false
 |_=>true
noncomputable def X3(sc:gE)(kd:cK)(SK:List Str):Bool:=
 decide (sc.kind=.function)&& !sc.isCoroutine&&(sc.names.all fun x=>decide (x.2=.local→sc.names.lookup x.1=some .local))&&
 ((frees sc.names).all fun n=>decide (sc.names.lookup n=some .free)&&(decide (kd.lookup n=some .cell)||decide (kd.lookup n=some .free)))&&((bG sc.names).all fun n=>decide (n∈SK))
noncomputable def X4(sc:gE)(kd:cK)(ν:Slots)(tn:Str)(t:Nat)(ix:aQ):Bool:=
 X3 sc kd [tn]&&kF ix&&
 ((decide (bG sc.names=[])&&decide ((gY sc.names kd).lookup tn=some .local))||(decide (bG sc.names=[tn])&&decide ((gY sc.names kd).lookup tn=some .cell)&&decide (tn∉frees sc.names)))&&
 ((ou sc.names ν tn t).tail.all fun p=>decide (p.2≠t))
noncomputable def ab8(sc:gE)(kd:cK)(ν:Slots)(fV jW:Str)(dw dQ:Nat)(kh ji:aQ):Bool:=
 X3 sc kd []&&kF kh&&kF ji&&decide (bG sc.names=[])&&decide ((gY sc.names kd).lookup fV=some .local)&&decide ((gY sc.names kd).lookup jW=some .local)&&decide (fV≠jW)&&
 ((ou sc.names ν fV dw).tail.all fun p=>decide (p.2≠dw))&&((ou sc.names ν fV dw).all fun p=>decide (p.2≠dQ))
noncomputable def Gm.c1(G:Gm)(t:Nat)(x:aQ):Gm:=⟨gY (yF x).names G.kd,ou (yF x).names G.ν (vw (kk 1 x)).nm t,G.hd⟩
noncomputable def Gm.c2(G:Gm)(t u:Nat)(x:aQ):Gm:=⟨gY (yF x).names G.kd,((vw (kk 3 x)).nm,u)::ou (yF x).names G.ν (vw (kk 1 x)).nm t,G.hd⟩
noncomputable def Jl:aQ→Bool
 |.Slice .. =>false
 |.Tuple .. =>false
 |.Constant .. =>true
 |.Name .. =>true
 |.UnaryOp .. =>true
 |.BinOp .. =>true
 |_=>false
mutual
noncomputable def gx:E→Gm→aQ→Bool
 |.var i,G,x=>aaJ G i x
 |.lit a,G,x=>litOk G a
 |.list es,G,x=>E7 es G (vw x).xs
 |.tup es,G,x=>E7 es G (vw x).xs
 |.jC,G,x=>true
 |.C3 a b,G,x=>gx a G (kk 0 x)&&gx b G (kk 1 x)
 |.bin op a b,G,x=>gx a G (kk 0 x)&&gx b G (kk 1 x)
 |.neg a,G,x=>gx a G (kk 0 x)
 |.cmp op a b,G,x=> !behindInMarks (wo op) (real b (kk 1 x))&&(gx a G (kk 0 x)&&gx b G (kk 1 x))
 |.not a,G,x=>gx a G (kk 0 x)
 |.and a b,G,x=>gx a G (kk 0 x)&&gx b G (kk 1 x)
 |.or a b,G,x=>gx a G (kk 0 x)&&gx b G (kk 1 x)
 |.or3 a b c,G,x=>gx a G (kk 0 x)&&(gx b G (kk 1 x)&&gx c G (kk 2 x))
 |.ite t a b,G,x=>gx t G (kk 0 x)&&(gx a G (kk 1 x)&&gx b G (kk 2 x))
 |.attr o a,G,x=>baseOk (real o (kk 0 x))&&gx o G (kk 0 x)
 |.clsName o,G,x=>baseOk (real o (kk 0 (kk 0 x)))&&gx o G (kk 0 (kk 0 x))
 |.sub o i,G,x=>Jl (real i (kk 1 x))&&(gx o G (kk 0 x)&&gx i G (kk 1 x))
 |.upTo o k,G,x=>gx o G (kk 0 x)&&gx k G (kk 0 (kk 1 x))
 |.all o,G,x=>gx o G (kk 0 x)
 |.from o k,G,x=>gx o G (kk 0 x)&&gx k G (kk 0 (kk 1 x))
 |.call f as,G,x=>(G.hd&&(rE as ((vw x).xs.drop 1)).all fun x=> !cX x)&&(gx f G (kk 0 x)&&E7 as G ((vw x).xs.drop 1))
 |.cQ o m as,G,x=>(G.hd&&(baseOk (real o (kk 0 (kk 0 x)))&&lu (pp (kk 0 x)) (pp x) (rE as ((vw x).xs.drop 1))))&&(gx o G (kk 0 (kk 0 x))&&E7 as G ((vw x).xs.drop 1))
 |.o9 a b,G,x=>(G.hd&&(Hi G .list&&((!cX (real a (kk 1 x))&& !cX (real b (kk 2 x)))&&(pp (kk 0 x)).endLine==(pp x).line)))&&(gx a G (kk 1 x)&&gx b G (kk 2 x))
 |.comp e t it,G,x=>(G.hd&&X4 (yF x) G.kd G.ν (vw (kk 1 x)).nm t (real it (kk 2 x)))&&(gx it G (kk 2 x)&&gx e (G.c1 t x) (kk 0 x))
 |.fm e t it c,G,x=>(G.hd&&X4 (yF x) G.kd G.ν (vw (kk 1 x)).nm t (real it (kk 2 x)))&&(gx it G (kk 2 x)&&(gx e (G.c1 t x) (kk 0 x)&&gx c (G.c1 t x) (kk 3 x)))
 |.zm e t it u it₂,G,x=>(G.hd&&ab8 (yF x) G.kd G.ν (vw (kk 1 x)).nm (vw (kk 3 x)).nm t u (real it (kk 2 x)) (real it₂ (kk 4 x)))&&(gx it G (kk 2 x)&&(gx e (G.c2 t u x) (kk 0 x)&&gx it₂ (G.c1 t x) (kk 4 x)))
noncomputable def E7:EL→Gm→List aQ→Bool
 |.nil,_,_=>true
 |.cons e r,G,xs=> !cX (real e (hdE xs))&&(gx e G (hdE xs)&&E7 r G (xs.drop 1))
end
structure Ke(G:Gm)(n:Nat)(C:Cx)(A:aG)(env:Env):Prop where
 b:Kb C A
 k:G.hd=true→Kx n C A
 ok:fy env G.kd
 co:CellsOk env G.kd
structure Ev(n:Nat)(e:E)(lm:LM)(H:Hp)(v:AV)(H':Hp):Prop where
 go:∀{G:Gm}{x:aQ}{C:Cx}{A:aG}{env:Env}{ρ:List ah},gx e G x=true→Ke G n C A env→LR C env G.ν ρ lm→Sm C A ρ VR H v H' (PySem.eval (real e x) env)
noncomputable instance aeG{n:Nat}{e:E}{lm:LM}{H:Hp}{v:AV}{H':Hp}:CoeFun (Ev n e lm H v H') fun _=> ∀{G:Gm}{x:aQ}{C:Cx}{A:aG}{env:Env}{ρ:List ah},gx e G x=true→Ke G n C A env→LR C env G.ν ρ lm→Sm C A ρ VR H v H' (PySem.eval (real e x) env):=⟨fun h=>h.go⟩
structure Evx(n:Nat)(e:E)(lm:LM)(H:Hp)(k:Ex)(H':Hp):Prop where
 go:∀{G:Gm}{x:aQ}{C:Cx}{A:aG}{env:Env}{ρ:List ah},gx e G x=true→Ke G n C A env→LR C env G.ν ρ lm→Sx C A ρ H k H' (PySem.eval (real e x) env)
noncomputable instance aeH{n:Nat}{e:E}{lm:LM}{H:Hp}{k:Ex}{H':Hp}:CoeFun (Evx n e lm H k H') fun _=> ∀{G:Gm}{x:aQ}{C:Cx}{A:aG}{env:Env}{ρ:List ah},gx e G x=true→Ke G n C A env→LR C env G.ν ρ lm→Sx C A ρ H k H' (PySem.eval (real e x) env):=⟨fun h=>h.go⟩
structure CF(n:Nat)(es:EL)(lm:LM)(H:Hp)(vs:List AV)(H':Hp):Prop where
 go:∀{G:Gm}{xs:List aQ}{C:Cx}{A:aG}{env:Env}{ρ:List ah}{pos:Pos},E7 es G xs=true→Ke G n C A env→LR C env G.ν ρ lm→Sm C A ρ iy H vs H' (spliced (backTo pos (starEach (rE es xs) env)))
noncomputable instance aeI{n:Nat}{es:EL}{lm:LM}{H:Hp}{vs:List AV}{H':Hp}:CoeFun (CF n es lm H vs H') fun _=> ∀{G:Gm}{xs:List aQ}{C:Cx}{A:aG}{env:Env}{ρ:List ah}{pos:Pos},E7 es G xs=true→Ke G n C A env→LR C env G.ν ρ lm→Sm C A ρ iy H vs H' (spliced (backTo pos (starEach (rE es xs) env))):=⟨fun h=>h.go⟩
structure Te(n:Nat)(e:E)(lm:LM)(H:Hp)(c:Bool)(H':Hp):Prop where
 go:∀{G:Gm}{x:aQ}{C:Cx}{A:aG}{env:Env}{ρ:List ah},gx e G x=true→Ke G n C A env→LR C env G.ν ρ lm→Sm C A ρ B1 H c H' (isTrue (real e x) env (PySem.eval (real e x) env))
noncomputable instance aeJ{n:Nat}{e:E}{lm:LM}{H:Hp}{c:Bool}{H':Hp}:CoeFun (Te n e lm H c H') fun _=> ∀{G:Gm}{x:aQ}{C:Cx}{A:aG}{env:Env}{ρ:List ah},gx e G x=true→Ke G n C A env→LR C env G.ν ρ lm→Sm C A ρ B1 H c H' (isTrue (real e x) env (PySem.eval (real e x) env)):=⟨fun h=>h.go⟩
structure Ew(n:Nat)(e:E)(lm:LM)(H:Hp)(ys:List AV)(H':Hp):Prop where
 go:∀{G:Gm}{x:aQ}{C:Cx}{A:aG}{env:Env}{ρ:List ah},gx e G x=true→Ke G n C A env→LR C env G.ν ρ lm→∀P:Prop,(∀el gs sc p,real e x=.ListComp el gs sc p→CW C A ρ env H ys H' el gs sc p→P)→P
noncomputable instance aeK{n:Nat}{e:E}{lm:LM}{H:Hp}{ys:List AV}{H':Hp}:CoeFun (Ew n e lm H ys H') fun _=> ∀{G:Gm}{x:aQ}{C:Cx}{A:aG}{env:Env}{ρ:List ah},gx e G x=true→Ke G n C A env→LR C env G.ν ρ lm→∀P:Prop,(∀el gs sc p,real e x=.ListComp el gs sc p→CW C A ρ env H ys H' el gs sc p→P)→P:=⟨fun h=>h.go⟩
theorem ay(h:(a&&b)=true):a=true:=(qi.mp h).1
theorem ak(h:(a&&b)=true):b=true:=(qi.mp h).2
theorem uD(h:(!a)=true):a=false:=(zj a).mp h
theorem Kx.aM(K:Kx n C A)(X:Led):Kx n (C.aM X) A:=
 ⟨⟨K.B,K.hh,K.dep,K.un,K.fr.imp fun _ h=>h.imp fun _ h=>⟨h.fs,h.frames,h.fr,h.kind,h.outs,h.nd⟩⟩,K.XW,K.un9⟩
theorem Ke.inner(K:Ke G n C A env)(X:Led)(ok:fy cu kd)(co:CellsOk cu kd):Ke ⟨kd,ν,G.hd⟩ n (C.aM X) A cu:=⟨⟨K.b.B,K.b.hu⟩,fun h=>(K.k h).aM X,ok,co⟩
structure Pu(o:AO)(H:Hp)(v:AV)(H':Hp):Prop where
 v:v=.loc H.length
 h:H'=H++[o]
 s:small o
theorem rK(h:small o):Pu o H (.loc H.length) (H++[o]):=⟨rfl,rfl,h⟩
@[elab_as_elim] theorem Pu.e {o:AO} {H:Hp} {P:AV→Hp→Prop} {v:AV} {H':Hp} (p:Pu o H v H') (k:small o→P (.loc H.length) (H++[o])):P v H':=by
 obtain⟨rfl,rfl,s⟩:=p;exact k s
structure Pt(l:Nat)(o:AO)(H H':Hp):Prop where
 h:H'=H.set l o
 s:small o
theorem Hj(h:small o):Pt l o H (H.set l o):=⟨rfl,h⟩
@[elab_as_elim] theorem Pt.e {l:Nat} {o:AO} {H:Hp} {P:Hp→Prop} {H':Hp} (p:Pt l o H H') (k:small o→P (H.set l o)):P H':=by
 obtain⟨rfl,s⟩:=p;exact k s
section
variable{n:Nat}{lm iZ gV:LM}{H H1 H2 H3 H4:Hp}{e a b t:E}{es:EL}{i l d r:Nat}{u v w x:AV}{vs xs ys:List AV}{c:Bool}{G:Gm}{C:Cx}{A:aG}{env:Env}
theorem vG(h:Hi G g=true)(K:Ke G n C A env):Sm C A ρ VR H (.glob g) H (PySem.eval (.Name (kE g) p) env):=
 TX K.b.B K.ok (ay h) (by rw[dU,K.ok.kd];exact cP (ay (ak h))) (ak (ak h))
theorem UN:Sm C A ρ VR H .none H (PySem.eval (.Constant .none k p) env):=Sm.pure rfl
theorem UO:Sm C A ρ VR H (.bool c) H (PySem.eval (.Constant (.bool c) k p) env):=Sm.pure rfl
theorem aj(h:lm[i]? =some (some v)):Ev n (.var i) lm H v H:=⟨fun o K l=>Yx K.ok (ay o) (cP (ak o)) l h⟩
theorem aaK:Ev n (.lit (.int j)) lm H (.int j) H:=⟨fun _ _ _=>Yz⟩
theorem aaL:Ev n (.lit (.str s)) lm H (.str s) H:=⟨fun _ _ _=>YB⟩
theorem P1:Ev n (.lit (.bool c)) lm H (.bool c) H:=⟨fun _ _ _=>UO⟩
theorem Zv:Ev n (.lit .none) lm H .none H:=⟨fun _ _ _=>UN⟩
theorem adv:Ev n (.lit (.glob g)) lm H (.glob g) H:=⟨fun o K _=>vG o K⟩
theorem aq:CF n .nil lm H [] H:=⟨fun _ _ _=>args_nil⟩
theorem ai(h:Ev n e lm H v H1)(k:CF n es lm H1 vs H2):CF n (.cons e es) lm H (v::vs) H2:=⟨fun o K l=>args_cons (uD (ay o)) (h (ay (ak o)) K l) fun _ p=>k (ak (ak o)) K (l.mono p)⟩
theorem b9(h:CF n es lm H vs H1)(p:Pu (.list vs) H1 v H2):Ev n (.list es) lm H v H2:=p.e fun s=>⟨fun o K l=>TY (h o K l) s⟩
theorem oR(h:CF n es lm H vs H1)(p:Pu (.tuple vs) H1 v H2):Ev n (.tup es) lm H v H2:=p.e fun s=>⟨fun o K l=>YC (h o K l) s⟩
theorem nC(p:Pu (.dict [] 0) H v H1):Ev n .jC lm H v H1:=p.e fun _=>⟨fun _ _ _=>QU⟩
theorem UP(h:lm[i]? =some (some u))(k:lm[j]? =some (some v))(ko:keyOk u=true)(p:Pu (.dict [(u,v)] 1) H w H1):Ev n (.C3 (.var i) (.var j)) lm H w H1:=
 p.e fun s=>⟨fun o K l=>QV K.ok (ay (ay o)) (ay (ak o)) (cP (ak (ay o))) (cP (ak (ak o))) l h k ko⟩
theorem jX(h:Ev n a lm H u H1)(k:Ev n b lm H1 v H2)(o:Bo op u v H2 w H3):Ev n (.bin op a b) lm H w H3:=⟨fun z K l=>Ze K.b (h (ay z) K l) (fun _ p=>k (ak z) K (l.mono p)) o⟩
theorem I2(h:Ev n a lm H (.int j) H1):Ev n (.neg a) lm H (.int (-j)) H1:=⟨fun z K l=>Zf (h z K l)⟩
theorem C9(h:Ev n a lm H u H1)(k:Ev n b lm H1 v H2)(o:Co op u v H2 c):Ev n (.cmp op a b) lm H (.bool c) H2:=⟨fun z K l=>Zg K.b (uD (ay z)) (h (ay (ak z)) K l) (fun _ p=>k (ak (ak z)) K (l.mono p)) o⟩
theorem aaM(h:Ev n a lm H u H1)(k:Tr u H1 false)(y:Ev n b lm H1 v H2):Ev n (.or a b) lm H v H2:=⟨fun z K l=>adg K.b (h (ay z) K l) k fun _ p=>y (ak z) K (l.mono p)⟩
theorem Hl(h:Te n t lm H true H1)(k:Ev n a lm H1 v H2):Ev n (.ite t a b) lm H v H2:=⟨fun z K l=>ade (h (ay z) K l) fun _ p=>k (ay (ak z)) K (l.mono p)⟩
theorem Ho(h:Te n t lm H false H1)(k:Ev n b lm H1 v H2):Ev n (.ite t a b) lm H v H2:=⟨fun z K l=>adf (h (ay z) K l) fun _ p=>k (ak (ak z)) K (l.mono p)⟩
theorem Zw(h:Ev n a lm H u H1)(k:At' u q H1 v):Ev n (.attr a q) lm H v H1:=⟨fun z K l=>Uj K.b (ay z) (h (ak z) K l) k⟩
theorem aaN(h:Ev n a lm H (.loc l) H1)(q:H1[l]? =some (.inst k d))(y:k=.solver∨k=.recursive):Ev n (.clsName a) lm H (.CB false) H1:=⟨fun z K l=>cls_sm K.b (ay z) (h (ak z) K l) q y⟩
theorem Ii(h:Jl sl=true):I0 sl:=by
 intro o i;cases sl<;>first|exact nf h|exact Cv h|(cases h;done)|rfl
theorem gR(h:Ev n a lm H u H1)(k:Ev n b lm H1 v H2)(o:Sb u v H2 w):Ev n (.sub a b) lm H w H2:=⟨fun z K l=>YS K.b (Ii (ay z)) (h (ay (ak z)) K l) (fun _ p=>k (ak (ak z)) K (l.mono p)) o⟩
theorem P4(h:Ev n a lm H (.loc l) H1)(k:Ev n b lm H1 (.int j) H2)(j0:0≤j)(q:Sv H2 l xs)(p:Pu (.list (xs.take j.toNat)) H2 w H3):Ev n (.upTo a b) lm H w H3:=p.e fun s=>⟨fun z K l=>Uc K.b (h (ay z) K l) (fun _ p=>k (ak z) K (l.mono p)) j0 q s⟩
theorem aaO(h:Ev n a lm H (.loc l) H1)(q:Sv H1 l xs)(p:Pu (.list xs) H1 w H3):Ev n (.all a) lm H w H3:=p.e fun s=>⟨fun z K l=>YR K.b (h z K l) q s⟩
theorem Zx(h:Ev n a lm H (.loc l) H1)(k:Ev n b lm H1 (.int j) H2)(j0:j<0)(q:Sv H2 l xs)(p:Pu (.list (xs.drop (xs.length -(-j).toNat))) H2 w H3):Ev n (.from a b) lm H w H3:=p.e fun s=>⟨fun z K l=>Ud K.b (h (ay z) K l) (fun _ p=>k (ak z) K (l.mono p)) j0 q s⟩
theorem bI(k:CF n es lm H vs H2)(o:Cl n (.glob g) vs H2 w H3):Ev n (.call (.lit (.glob g)) es) lm H w H3:=⟨fun z K l=>Jg (K.k (ay (ay z))) (ak (ay z)) (vG (ay (ak z)) K) (fun _ p=>k (ak (ak z)) K (l.mono p)) o⟩
theorem P5(h:lm[i]? =some (some u))(k:CF n es lm H vs H2)(o:Cl n u vs H2 w H3):Ev n (.call (.var i) es) lm H w H3:=⟨fun z K l=>Jg (K.k (ay (ay z))) (ak (ay z)) (aj (n:=n) h (ay (ak z)) K l) (fun _ p=>k (ak (ak z)) K (l.mono p)) o⟩
theorem d9(h:Ev n a lm H (.loc l) H1)(y:Mk l m H1 k)(s:CF n es lm H1 vs H2)(o:Mc n k l m vs H2 w H3):Ev n (.cQ a m es) lm H w H3:=⟨fun z K l=>
 Us (K.k (ay (ay z))).toKc (ay (ak (ay z))) (ak (ak (ay z))) (h (ay (ak z)) K l) y (fun _ p=>s (ak (ak z)) K (l.mono p)) o⟩
theorem Zy{x:Ex}(h:Ev n a lm H (.loc l) H1)(y:Mk l m H1 k)(s:CF n es lm H1 vs H2)(o:Mcx n k l m vs H2 x H3):Evx n (.cQ a m es) lm H x H3:=⟨fun z K l=>
 Ut (K.k (ay (ay z))).toKc (ay (ak (ay z))) (ak (ak (ay z))) (h (ay (ak z)) K l) y (fun _ p=>s (ak (ak z)) K (l.mono p)) o⟩
theorem UQ(h:Ev n a lm H (.loc l) H1)(k:Ev n b lm H1 (.loc q) H2)(ho:H2[l]? =some (.dom [] d))(hq:Src H2 q ys)(lU:l≠q)(sm:ys.length<bQ):Ev n (.o9 a b) lm H .none (H2.set l (.dom ys d)):=⟨fun z K l=>
 QT K.b (K.k (ay (ay z))).hh ⟨uD (ay (ay (ak (ak (ay z))))),uD (ak (ay (ak (ak (ay z)))))⟩ (ak (ak (ak (ay z)))) (fun _ p=>vG (g:=.list) (ay (ak (ay z))) K) (fun _ p=>h (ay (ak z)) K (l.mono p)) (fun _ p=>k (ak (ak z)) K (l.mono p)) ho hq lU sm⟩
theorem gu(h:Te n a lm H (!c) H1):Te n (.not a) lm H c H1:=⟨fun z K l=>Zi (h z K l)⟩
theorem rL{xs:List aQ}(h:Sm C A ρ B1 H c H1 (allTrue op xs env)):Sm C A ρ B1 H c H1 (isTrue (.BoolOp op xs p) env wh):=h
theorem ly(h:Te n a lm H true H1)(k:Te n b lm H1 c H2):Te n (.and a b) lm H c H2:=⟨fun z K l=>rL (vD (op:=.And) (h (ay z) K l) fun _ p=>By (k (ak z) K (l.mono p)))⟩
theorem nv(h:Te n a lm H false H1):Te n (.and a b) lm H false H1:=⟨fun z K l=>rL (Jh (op:=.And) (h (ay z) K l))⟩
theorem Ng(h:Te n a lm H true H1):Te n (.or a b) lm H true H1:=⟨fun z K l=>rL (Jh (op:=.Or) (h (ay z) K l))⟩
theorem zy(h:Te n a lm H false H1)(k:Te n b lm H1 c H2):Te n (.or a b) lm H c H2:=⟨fun z K l=>rL (vD (op:=.Or) (h (ay z) K l) fun _ p=>By (k (ak z) K (l.mono p)))⟩
theorem aaP(h:Te n a lm H false H1)(k:Te n b lm H1 false H2)(y:Te n e lm H2 c H3):Te n (.or3 a b e) lm H c H3:=⟨fun z K l=>
 rL (vD (op:=.Or) (h (ay z) K l) fun _ p=>vD (op:=.Or) (k (ay (ak z)) K (l.mono p)) fun _ q=>By (y (ak (ak z)) K (l.mono (p.trans q))))⟩
theorem bA(h:Ev n a lm H u H1)(k:Ev n b lm H1 v H2)(o:Co op u v H2 c):Te n (.cmp op a b) lm H c H2:=⟨fun z K l=>Zh K.b (uD (ay z)) (h (ay (ak z)) K l) (fun _ p=>k (ak (ak z)) K (l.mono p)) o⟩
theorem fB(h:lm[i]? =some (some v))(k:Tr v H c):Te n (.var i) lm H c H:=⟨fun z K l=>GW K.b rfl (aj (n:=n) h z K l) k⟩
theorem Dc:Te n (.lit (.bool c)) lm H c H:=⟨fun z K l=>GW K.b rfl (P1 (n:=n) z K l) eT⟩
theorem jP(h:Ev n (.call a es) lm H u H1)(k:Tr u H1 c):Te n (.call a es) lm H c H1:=⟨fun z K l=>GW K.b rfl (h z K l) k⟩
end
theorem zR(h:X3 sc kd SK=true):E5 sc kd SK:=by
 haveI h1:=ay h;haveI h2:=ay h1;haveI h3:=ay h2;refine⟨cP (ay h3),uD (ak h3),fun x hx=>cP (iE.mp (ak h2) x hx),fun m hm=>?_,fun m hm=>cP (iE.mp (ak h) m hm)⟩;haveI q:=iE.mp (ak h1) m hm;exact⟨cP (ay q),((rt ..).mp (ak q)).imp cP cP⟩
theorem qK{l:Slots}(h:(l.all fun p=>decide (p.2≠t))=true):∀n i,l.lookup n=some i→i≠t:=fun n i e=>cP (iE.mp h _ (mem_of_lookup e))
theorem zS{sc:gE}(h:X4 sc kd ν tn t ix=true):ab1 sc kd ν tn t ix:=
 ⟨zR (ay (ay (ay h))),ak (ay (ay h)),((rt ..).mp (ak (ay h))).imp (fun q=>⟨cP (ay q),cP (ak q)⟩) fun q=>⟨cP (ay (ay q)),cP (ak (ay q)),cP (ak q)⟩,qK (ak h)⟩
theorem Li{sc:gE}(h:ab8 sc kd ν fV jW dw dQ kh ji=true):ab4 sc kd ν fV jW dw dQ kh ji:=by
 haveI a:=ay h;haveI b:=ay a;haveI c:=ay b;haveI d:=ay c;haveI e:=ay d;haveI f:=ay e;haveI g:=ay f;exact⟨zR (ay g),ak g,ak f,cP (ak e),cP (ak d),cP (ak c),cP (ak b),qK (ak a),qK (ak h)⟩
def TT(_:AV)(H:Hp)(b:Bool)(H':Hp):Prop:=b=true∧H'=H
section
variable{n t u l:Nat}{lm:LM}{H H1 H2 H3:Hp}{e it c it₂:E}{v:AV}{xs ys:List AV}
theorem Zz(h:Ev n it lm H (.loc l) H1)(w:Wk H1 l xs)(m:Mi (Fb TT fun x=>Ev n e (upd lm t x)) (gW H1 l) xs H1 ys H2)(sm:ys.length<bQ):Ew n (.comp e t it) lm H ys H2:=⟨fun{G x C A env ρ} z K lr P k=>
 k _ _ _ _ rfl (Dr K.b (K.k (ay (ay z))).hh K.ok K.co lr (zS (ak (ay z))) (h (ay (ak z)) K lr) w (fun q _ _ _=>by obtain⟨rfl,rfl⟩:=q;rw[Ei];exact Sm.pure rfl) (fun{cu X' aD y H b H'} q ok co l=>q.go (G:=G.c1 t x) (ak (ak z)) (K.inner X' ok co) l) m sm)⟩
theorem UT(h:Ev n it lm H (.loc l) H1)(w:Wk H1 l xs)(m:Mi (Fb (fun x=>Te n c (upd lm t x)) fun x=>Ev n e (upd lm t x)) (gW H1 l) xs H1 ys H2)(sm:ys.length<bQ):Ew n (.fm e t it c) lm H ys H2:=⟨fun{G x C A env ρ} z K lr P k=>
 k _ _ _ _ rfl (Dr K.b (K.k (ay (ay z))).hh K.ok K.co lr (zS (ak (ay z))) (h (ay (ak z)) K lr) w (fun{cu X' aD y H b H'} q ok co l=>KZ (q.go (G:=G.c1 t x) (ak (ak (ak z))) (K.inner X' ok co) l)) (fun{cu X' aD y H b H'} q ok co l=>q.go (G:=G.c1 t x) (ay (ak (ak z))) (K.inner X' ok co) l) m sm)⟩
theorem UU(h:Ev n it lm H (.loc l) H1)(w:Wk H1 l xs)(m:Mi (F2 (fun x=>Ev n it₂ (upd lm t x)) fun x y=>Ev n e (upd (upd lm t x) u y)) (gW H1 l) xs H1 ys H2)(sm:ys.length<bQ):Ew n (.zm e t it u it₂) lm H ys H2:=⟨fun{G x C A env ρ} z K lr P k=>
 k _ _ _ _ rfl (Q0 K.b (K.k (ay (ay z))).hh K.ok K.co lr (Li (ak (ay z))) (h (ay (ak z)) K lr) w (fun{cu X' aD y H b H'} q ok co l=>q.go (G:=G.c1 t x) (ak (ak (ak z))) (K.inner X' ok co) l) (fun{cu X' aD y y' H b H'} q ok co l=>q.go (G:=G.c2 t u x) (ay (ak (ak z))) (K.inner X' ok co) l) m sm)⟩
theorem Hq(h:Ew n e lm H ys H1)(p:Pu (.list ys) H1 v H2):Ev n e lm H v H2:=p.e fun s=>⟨fun z K l=>h z K l _ fun el gs sc p e c=>by exact aa e c.sm⟩
end
structure VwS where
 p:Pos
 xs:List aQ
 a:List bT
 b:List bT
 hs:List kN
noncomputable def p0:Pos:=default
noncomputable def sG(s:bT):VwS:=match s with
 |.Return v p=>⟨p,v.toList,[],[],[]⟩
 |.Delete ts p=>⟨p,ts,[],[],[]⟩
 |.Assign ts v p=>⟨p,v::ts,[],[],[]⟩
 |.For t i a b p=>⟨p,[t,i],a,b,[]⟩
 |.While t a b p=>⟨p,[t],a,b,[]⟩
 |.If t a b p=>⟨p,[t],a,b,[]⟩
 |.Raise x _ p=>⟨p,x.toList,[],[],[]⟩
 |.Try a hs _ _ p=>⟨p,[],a,[],hs⟩
 |.Expr v p=>⟨p,[v],[],[],[]⟩
 |.Pass p=>⟨p,[],[],[],[]⟩
 |.Break p=>⟨p,[],[],[],[]⟩
 |_=>⟨p0,[],[],[],[]⟩
noncomputable def ks(i:Nat)(s:bT):aQ:=hdE ((sG s).xs.drop i)
noncomputable def ps(s:bT):Pos:=(sG s).p
noncomputable def S9(xs:List bT):bT:=xs.headD default
noncomputable def hdH(xs:List kN):kN:=xs.headD default
noncomputable def hTy:kN→aQ|.ExceptHandler t _ _ _=>t.getD default
noncomputable def hBd:kN→List bT|.ExceptHandler _ _ b _=>b
noncomputable def hPs:kN→Pos|.ExceptHandler _ _ _ p=>p
mutual
noncomputable def Nh:S→bT→bT
 |.expr e,s=>.Expr (real e (ks 0 s)) (ps s)
 |.ret e,s=>.Return (some (real e (ks 0 s))) (ps s)
 |.MM,s=>.Return none (ps s)
 |.asg _ e,s=>.Assign [nameOf (ks 1 s)] (real e (ks 0 s)) (ps s)
 |.jn o a e,s=>.Assign [.Attribute (real o (kk 0 (ks 1 s))) (attrS a) (pp (ks 1 s))] (real e (ks 0 s)) (ps s)
 |.lg o k e,s=>.Assign [.Subscript (real o (kk 0 (ks 1 s))) (real k (kk 1 (ks 1 s))) (pp (ks 1 s))] (real e (ks 0 s)) (ps s)
 |.kD _ e,s=>.Assign [.Tuple (vw (ks 1 s)).xs (vw (ks 1 s)).k (pp (ks 1 s))] (real e (ks 0 s)) (ps s)
 |.tP o k,s=>.Delete [.Subscript (real o (kk 0 (ks 0 s))) (real k (kk 1 (ks 0 s))) (pp (ks 0 s))] (ps s)
 |.tQ o,s=>.Delete [.Subscript (real o (kk 0 (ks 0 s))) (.Slice none none none (pp (kk 1 (ks 0 s)))) (pp (ks 0 s))] (ps s)
 |.vq o k,s=>.Delete [.Subscript (real o (kk 0 (ks 0 s))) (.Slice (some (real k (kk 0 (kk 1 (ks 0 s))))) none none (pp (kk 1 (ks 0 s)))) (pp (ks 0 s))] (ps s)
 |.for _ it b e,s=>.For (ks 0 s) (real it (ks 1 s)) (fN b (sG s).a) (fN e (sG s).b) (ps s)
 |.while t b e,s=>.While (real t (ks 0 s)) (fN b (sG s).a) (fN e (sG s).b) (ps s)
 |.if t a b,s=>.If (real t (ks 0 s)) (fN a (sG s).a) (fN b (sG s).b) (ps s)
 |.raise x m,s=>.Raise (some (.Call (.Name (EJ x) (pp (kk 0 (ks 0 s)))) [real m (kk 1 (ks 0 s))] [] (pp (ks 0 s)))) none (ps s)
 |.try b hs,s=>.Try (fN b (sG s).a) (Hr hs (sG s).hs) [] [] (ps s)
 |.brk,s=>.Break (ps s)
 |.pass,s=>.Pass (ps s)
 |.junk,s=>s
 |.yield _,s=>s
noncomputable def fN:SL→List bT→List bT
 |.nil,_=>[]
 |.cons s r,xs=>Nh s (S9 xs)::fN r (xs.drop 1)
noncomputable def Hr:HL→List kN→List kN
 |.nil,_=>[]
 |.cons x b r,hs=>.ExceptHandler (some (.Name (EJ x) (pp (hTy (hdH hs))))) none (fN b (hBd (hdH hs))) (hPs (hdH hs))::Hr r (hs.drop 1)
end
noncomputable def E.P6:E→Bool
 |.comp .. =>true|.fm .. =>true|.zm .. =>true|_=>false
noncomputable def Gm.h0(G:Gm):Gm:=⟨G.kd,G.ν,false⟩
noncomputable def ab9(G:Gm)(x:Ex):Bool:=decide (G.kd.lookup (EJ x)=some .globalImplicit)
noncomputable def aaQ(G:Gm)(i:Nat)(e:E)(s:bT):Bool:=CQ G.kd G.ν i (nameOf (ks 1 s))&&(w9 (real e (ks 0 s)) (vw (ks 1 s)).nm (pp (ks 1 s)) G.kd||(e.P6&&vF (real e (ks 0 s)) (vw (ks 1 s)).nm (pp (ks 1 s)) G.kd))
mutual
noncomputable def okS:S→Gm→bT→Bool
 |.expr e,G,s=>gp (real e (ks 0 s))&&gx e G (ks 0 s)
 |.ret e,G,s=>gx e G (ks 0 s)
 |.MM,_,_=>true
 |.asg i e,G,s=>aaQ G i e s&&gx e G (ks 0 s)
 |.jn o a e,G,s=>gp (real e (ks 0 s))&&(gx e G (ks 0 s)&&gx o G (kk 0 (ks 1 s)))
 |.lg o k e,G,s=>gp (real e (ks 0 s))&&(gx e G (ks 0 s)&&(gx o G (kk 0 (ks 1 s))&&gx k G (kk 1 (ks 1 s))))
 |.kD is e,G,s=>(G.hd&&(Al G.kd G.ν is (vw (ks 1 s)).xs&&(gp (real e (ks 0 s))&&PW (real e (ks 0 s)))))&&gx e G (ks 0 s)
 |.tP o k,G,s=>gx o G (kk 0 (ks 0 s))&&gx k G (kk 1 (ks 0 s))
 |.tQ o,G,s=>gx o G (kk 0 (ks 0 s))
 |.vq o k,G,s=>gx o G (kk 0 (ks 0 s))&&gx k G (kk 0 (kk 1 (ks 0 s)))
 |.for t it b e,G,s=>(G.hd&&(qk G.kd G.ν t (ks 0 s)&&kF (real it (ks 1 s))))&&(gx it G (ks 1 s)&&(kL b G (sG s).a&&kL e G (sG s).b))
 |.while t b e,G,s=>gx t G (ks 0 s)&&(kL b G (sG s).a&&kL e G (sG s).b)
 |.if t a b,G,s=>gx t G (ks 0 s)&&(kL a G (sG s).a&&kL b G (sG s).b)
 |.raise x m,G,s=>(G.hd&&(ab9 G x&& !cX (real m (kk 1 (ks 0 s)))))&&gx m G (kk 1 (ks 0 s))
 |.try b hs,G,s=>kL b G (sG s).a&&X5 hs G (sG s).hs
 |.brk,_,_=>true
 |.pass,_,_=>true
 |.junk,_,_=>true
 |.yield _,_,_=>true
noncomputable def kL:SL→Gm→List bT→Bool
 |.nil,_,_=>true
 |.cons s r,G,xs=>okS s G (S9 xs)&&kL r G (xs.drop 1)
noncomputable def X5:HL→Gm→List kN→Bool
 |.nil,_,_=>true
 |.cons x b r,G,hs=>ab9 G x&&(kL b G.h0 (hBd (hdH hs))&&X5 r G (hs.drop 1))
end
structure Ks(G:Gm)(n:Nat)(C:Cx)(A:aG)(env:Env)(outer:List Env):Prop where
 e:Ke G n C A env
 fr:bJ C A env outer
 es:j4 C env G.kd G.ν
structure En(n:Nat)(s:S)(lm:LM)(H:Hp)(fl:Fl)(aI:LM)(H':Hp):Prop where
 go:∀{G:Gm}{x:bT}{C:Cx}{A:aG}{env:Env}{outer:List Env},okS s G x=true→Ks G n C A env outer→mX C A env G.ν lm H fl aI H' (PySem.exec (Nh s x) env)
noncomputable instance aeL{n:Nat}{s:S}{lm:LM}{H:Hp}{fl:Fl}{aI:LM}{H':Hp}:CoeFun (En n s lm H fl aI H') fun _=> ∀{G:Gm}{x:bT}{C:Cx}{A:aG}{env:Env}{outer:List Env},okS s G x=true→Ks G n C A env outer→mX C A env G.ν lm H fl aI H' (PySem.exec (Nh s x) env):=⟨fun h=>h.go⟩
structure fS(n:Nat)(s:SL)(lm:LM)(H:Hp)(fl:Fl)(aI:LM)(H':Hp):Prop where
 go:∀{G:Gm}{x:List bT}{C:Cx}{A:aG}{env:Env}{outer:List Env},kL s G x=true→Ks G n C A env outer→mX C A env G.ν lm H fl aI H' (PySem.execs (fN s x) env)
noncomputable instance aeM{n:Nat}{s:SL}{lm:LM}{H:Hp}{fl:Fl}{aI:LM}{H':Hp}:CoeFun (fS n s lm H fl aI H') fun _=> ∀{G:Gm}{x:List bT}{C:Cx}{A:aG}{env:Env}{outer:List Env},kL s G x=true→Ks G n C A env outer→mX C A env G.ν lm H fl aI H' (PySem.execs (fN s x) env):=⟨fun h=>h.go⟩
section
variable{n:Nat}{lm iZ gV aI:LM}{H H1 H2 H3 H4 H':Hp}{e a b t o k:E}{i l d r:Nat}{u v w:AV}{vs xs ys:List AV}{s:S}{ss rs:SL}{fl:Fl}{x:Ex}{G:Gm}{C:Cx}{A:aG}{env:Env}{outer:List Env}
theorem Kx.st(K:Kx n C A)(h:m.fs=C.m.fs):Kx n (C.st m X) A:=
 ⟨⟨K.B,K.hh,K.dep,K.un,K.fr.imp fun _ q=>q.imp fun _ q=>q.st h⟩,K.XW,K.un9⟩
theorem Ks.st(K:Ks G n C A env outer)(h:m.fs=C.m.fs):Ks G n (C.st m X) A env outer:=⟨⟨⟨K.e.b.B,K.e.b.hu⟩,fun q=>(K.e.k q).st h,K.e.ok,K.e.co⟩,K.fr.st h,K.es.st⟩
theorem Ks.mark(K:Ks G n C A env outer)(v:Value):Ks G.h0 n C (A.mark (some v)) env outer:=⟨⟨⟨K.e.b.B,K.e.b.hu⟩,fun q=>(nf q),K.e.ok,K.e.co⟩,⟨K.fr.fs,K.fr.frames,K.fr.fr,K.fr.kind,K.fr.outs,K.fr.nd⟩,K.es⟩
theorem fS.sta(h:fS n ss lm H fl aI H'){x:List bT}(o:kL ss G x=true)(K:Ks G n C A env outer):S6 C A env G.ν lm H fl aI H' (PySem.execs (fN ss x) env):=fun _ _ q=>h o (K.st q)
theorem dM(h:Ev n e lm H v H1):En n (.expr e) lm H .next lm H1:=⟨fun o K=>UL K.e.ok (ay o) (h (ak o) K.e)⟩
theorem jt(h:Evx n e lm H x H1):En n (.expr e) lm H (.exc x) lm H1:=⟨fun o K=>Q2 K.e.ok (ay o) (h (ak o) K.e)⟩
theorem jE(h:Ev n e lm H v H1):En n (.ret e) lm H (.ret v) lm H1:=⟨fun o K=>PU (h o K.e)⟩
theorem P7:En n .MM lm H (.ret .none) lm H:=⟨fun _ _=>UI⟩
theorem Dw{x:aQ}(h:CQ kd ν i (nameOf x)=true):(kd.lookup (vw x).nm=some .local∨kd.lookup (vw x).nm=some .cell)∧ν.lookup (vw x).nm=some i:=(pW h).elim fun tn q=>q.elim fun tp q=>by
 obtain⟨e,q⟩:=q;cases e;exact q
theorem cC(h:Ev n e lm H v H1)(c:E.P6 e=false:=by rfl):En n (.asg i e) lm H .next (lm.set i (some v)) H1:=⟨fun o K=>
 haveI q:=Dw (ay (ay o))
 PV K.es q.1 q.2 (((rt ..).mp (ak (ay o))).resolve_right fun y=>by rw[c]at y;cases y) (h (ak o) K.e)⟩
theorem UW(h:Ew n e lm H ys H1)(s:ys.length<bQ):En n (.asg i e) lm H .next (lm.set i (some (.loc H1.length))) (H1++[.list ys]):=⟨by
 intro G x C A env outer o K;haveI q:=Dw (ay (ay o));rcases(rt ..).mp (ak (ay o))with y|y
 ·exact PV K.es q.1 q.2 y (Hq h ⟨rfl,rfl,s⟩ (ak o) K.e)
 ·haveI y:=ak y;show mX C A env G.ν lm H _ _ _ (PySem.exec (.Assign [nameOf (ks 1 x)] (real e (ks 0 x)) (ps x)) env);intro ρ s a;refine h (ak o) K.e a.lr _ fun el gs sc p e _=>?_;rw[e]at y ⊢;refine Ih K.es q.1 q.2 y (fun{ρ} l=>h (ak o) K.e l _ fun el' uo sc' p' e' c=>?_) ρ s a;cases e.symm.trans e';exact c⟩
theorem Hs(h:Ew n e lm H ys H1)(p:Pu (.list ys) H1 v H2):En n (.asg i e) lm H .next (lm.set i (some v)) H2:=p.e fun s=>UW h s
theorem qE(h:Ev n e lm H v H1)(z:Ev n o lm H1 u H2)(y:Sa u q v H2 H3):En n (.jn o q e) lm H .next lm H3:=⟨fun o K=>Ia K.e.b (ay o) (h (ay (ak o)) K.e) (z (ak (ak o)) K.e) y⟩
theorem zA(h:Ev n e lm H v H1)(z:Ev n o lm H1 u H2)(q:Ev n k lm H2 w H3)(y:Ss u w v H3 H4):En n (.lg o k e) lm H .next lm H4:=⟨fun o K=>K7 K.e.b (ay o) (h (ay (ak o)) K.e) (z (ay (ak (ak o))) K.e) (q (ak (ak (ak o))) K.e) y⟩
theorem WC(h:Ev n e lm H (.loc l) H1)(z:H1[l]? =some (.tuple vs))(y:tR lm is vs=some iZ):En n (.kD is e) lm H .next iZ H1:=⟨fun o K=>
 La (K.e.k (ay (ay o))).hh K.es (ay (ak (ay o))) (ay (ak (ak (ay o)))) (ak (ak (ak (ay o)))) (h (ak o) K.e) (.many z y)⟩
theorem ZA(h:Ev n o lm H u H1)(z:Ev n k lm H1 v H2)(y:Ds u v H2 H3):En n (.tP o k) lm H .next lm H3:=⟨fun o K=>Hg fun{ρ} l=>K8 K.e.b (h (ay o) K.e l) (fun _ p=>z (ak o) K.e (l.mono p)) y⟩
theorem Ht(h:Ev n o lm H (.loc l) H1)(z:H1[l]? =some (.list xs))(p:Pt l (.list []) H1 H2):En n (.tQ o) lm H .next lm H2:=p.e fun _=>⟨fun o K=>Hg fun{ρ} l=>K9 K.e.b (h o K.e l) z⟩
theorem UX(h:Ev n o lm H (.loc l) H1)(g:Ev n k lm H1 (.int q) H2)(z:H2[l]? =some (.list xs))(p:q<0)(m:Pt l (.list (xs.take (xs.length -(-q).toNat))) H2 H3):En n (.vq o k) lm H .next lm H3:=
 m.e fun _=>⟨fun o K=>Hg fun{ρ} l=>Ib K.e.b (h (ay o) K.e l) (fun _ p=>g (ak o) K.e (l.mono p)) p z⟩
theorem cV(h:Te n t lm H true H1)(z:fS n ra lm H1 fl aI H'):En n (.if t ra rb) lm H fl aI H':=⟨fun o K=>Zk (h (ay o) K.e) (z (ay (ak o)) K)⟩
theorem bF(h:Te n t lm H false H1)(z:fS n rb lm H1 fl aI H'):En n (.if t ra rb) lm H fl aI H':=⟨fun o K=>Zm (h (ay o) K.e) (z (ak (ak o)) K)⟩
theorem rM(h:Ev n e lm H v H1):En n (.raise x e) lm H (.exc x) lm H1:=⟨fun o K=>
 Q8 K.e.b.B (K.e.k (ay (ay o))).hh K.fr K.e.ok (uD (ak (ak (ay o)))) (by rw[dU,K.e.ok.kd];exact cP (ay (ak (ay o)))) (h (ak o) K.e)⟩
theorem Dd:En n .brk lm H .brk lm H:=⟨fun _ _=>Zj⟩
theorem ZD:En n .pass lm H .next lm H:=⟨fun _ _=>UH⟩
theorem bD:fS n .nil lm H .next lm H:=⟨fun _ _=>Zn⟩
theorem aA(h:En n s lm H .next iZ H1)(z:fS n rs iZ H1 fl aI H'):fS n (.cons s rs) lm H fl aI H':=⟨fun o K=>UJ (h (ay o) K) (z.sta (ak o) K)⟩
theorem aS(h:En n s lm H .next iZ H1):fS n (.cons s .nil) lm H .next iZ H1:=aA h bD
noncomputable def Fl.stop:Fl→Bool
 |.next=>false|_=>true
theorem aJ(h:En n s lm H fl iZ H1)(p:Fl.stop fl=true):fS n (.cons s rs) lm H fl iZ H1:=⟨fun o K=>Ji (fun q=>by rw[q]at p;cases p) (h (ay o) K)⟩
abbrev Tur(n:Nat)(tg:Mp)(ra:SL)(H₀:Hp)(l:Nat)(xs:List AV)(lm:LM)(H:Hp)(r:Option Fl)(aI:LM)(H':Hp):Prop:=Tn (fS n ra) tg (gW H₀ l) xs lm H r aI H'
theorem P8{tg:Mp}(h:Ev n e lm H (.loc l) H1)(w:Wk H1 l xs)(y:Tur n tg ra H1 l xs lm H1 q gV H2)(z:CT (fS n rb) q gV H2 fl aI H'):En n (.for tg e ra rb) lm H fl aI H':=⟨fun o K=>
 Zr (K.e.k (ay (ay o))).hh K.fr K.es (ay (ak (ay o))) (ak (ak (ay o))) (h (ay (ak o)) K.e) w (fun q=>q.sta (ay (ak (ak o))) K) (fun q=>q.sta (ak (ak (ak o))) K) y z⟩
theorem gS(h:Ev n e lm H (.loc l) H1)(w:Wk H1 l xs)(y:Tur n tg ra H1 l xs lm H1 none gV H2)(z:fS n rb gV H2 fl aI H'):En n (.for tg e ra rb) lm H fl aI H':=P8 h w y (.els z)
theorem qF(h:Ev n e lm H (.loc l) H1)(w:Wk H1 l xs)(y:Tur n tg ra H1 l xs lm H1 (some fl) gV H2):En n (.for tg e ra rb) lm H fl gV H2:=P8 h w y .stop
abbrev Xj(n:Nat)(t:E)(ra:SL)(k:Nat)(lm:LM)(H:Hp)(r:Option Fl)(aI:LM)(H':Hp):Prop:=Lp (fun lm H b H'=>Te n t lm H b H') (fS n ra) k lm H r aI H'
theorem WD{ra rb:SL}(y:Xj n t ra m lm H q gV H2)(z:CT (fS n rb) q gV H2 fl aI H'):En n (.while t ra rb) lm H fl aI H':=⟨fun o K=>
 Q7 K.fr (fun q e l=>q (ay o) (K.st e).e l) (fun q=>q.sta (ay (ak o)) K) (fun q=>q.sta (ak (ak o)) K) y z⟩
theorem adw(y:Xj n t ra m lm H none gV H2)(z:fS n rb gV H2 fl aI H'):En n (.while t ra rb) lm H fl aI H':=WD y (.els z)
theorem Ni(y:Xj n t ra m lm H (some fl) gV H2):En n (.while t ra rb) lm H fl gV H2:=WD y .stop
noncomputable def Fl.nx:Fl→Bool
 |.exc _=>false|_=>true
theorem WG(h:fS n ss lm H fl iZ H1)(p:Fl.nx fl=true):En n (.try ss (.cons y bb hs)) lm H fl iZ H1:=⟨fun o K=>Zt (fun k q=>by rw[q]at p;cases p) (h (ay o) K)⟩
noncomputable def HL.full:HL→Bool
 |.nil=>true|.cons _ .nil _=>false|.cons _ (.cons _ _) r=>r.full
theorem acd:∀{hs:HL}{x:List kN},hs.full=true→X5 hs G x=true→Ks G n C A env outer→MR C A env G.ν (fun b lm H fl aI H'=>fS n b lm H fl aI H') hs (Hr hs x)
 |.nil,_,_,_,_=>trivial
 |.cons _ .nil _,_,f,_,_=>(nf f)
 |.cons k (.cons s b) r,x,f,o,K=>⟨_,_,_,_,_,rfl,(by rw[dU,K.e.ok.kd];exact cP (ay o)),(fun e {lm H fl aI H'} q=>fS.sta (G:=G.h0) q (ay (ak o)) (K.mark (.ref e))),acd (hs:=r) f (ak (ak o)) K⟩
abbrev Hnd(n:Nat)(x:Ex)(hs:HL)(lm:LM)(H:Hp)(fl:Fl)(aI:LM)(H':Hp):Prop:=Hd (fun b lm H fl aI H'=>fS n b lm H fl aI H') x hs lm H fl aI H'
theorem zB(h:fS n ss lm H (.exc x) iZ H1)(z:Hnd n x (.cons y bb hs) iZ H1 fl aI H')(f:HL.full (.cons y bb hs)=true:=by rfl):En n (.try ss (.cons y bb hs)) lm H fl aI H':=⟨fun o K=>
 UM K.e.b.B K.fr K.e.ok (h (ay o) K) (acd f (ak o) K) z⟩
theorem J6(z:fS n ss lm H fl aI H'):Hnd n x (.cons x ss hs) lm H fl aI H':=.is z
theorem aaR(q:y≠x)(z:Hnd n x hs lm H fl aI H'):Hnd n x (.cons y ss hs) lm H fl aI H':=.no q z
end
section
mutual
noncomputable def slS:S→List Nat
 |.asg i _=>[i]
 |.kD is _=>is
 |.for t _ b e=>(match t with|.one i=>[i]|.many is=>is)++qt b++qt e
 |.while _ b e=>qt b++qt e
 |.if _ a b=>qt a++qt b
 |.try b hs=>qt b++ace hs
 |_=>[]
noncomputable def qt:SL→List Nat
 |.nil=>[]
 |.cons s r=>slS s++qt r
noncomputable def ace:HL→List Nat
 |.nil=>[]
 |.cons _ b r=>qt b++ace r
end
noncomputable def qX(f:Fn):Slots:=(((kO (oh f).params)++qt (oh f).body).eraseDups).filterMap fun i=>((oh f).names[i]?).map (·,i)
noncomputable def qG:Fn→Bool
 |.aK=>true|.bl=>true|.aZ=>true|_=>false
noncomputable def dV:AV→Value
 |.bool b=>.bool b
 |.glob g=>W7 g
 |_=>.none
noncomputable def P0:Params:={strHash:=fun _=>0,shareClass:=fun _=>0,mergeTok:=fun t=>t,idOf:=fun _=>0,idOfShared:=fun _ _=>0,followText:=fun _=>false,idOfImm:=fun _=>0}
noncomputable def fdOf(f:Fn):wO:=match(Hd.fr P0).lookup (vh f)with
 |some ⟨_,_,.func fd,_⟩=>fd
 |_=>default
noncomputable def mh(f:Fn):List bT:=match(fdOf f).body with
 |.stmts b=>b
 |_=>[]
noncomputable def X6(f:Fn):Gm:=⟨(fdOf f).scope.names,qX f,true⟩
noncomputable def qY(f:Fn):List Str:=(oh f).names.take (oh f).params
noncomputable def adx(f:Fn):Bool:=kL (oh f).body (X6 f) (mh f)&&(decide (((cellsFrom 0 (fdOf f).scope.names []).map (·.1)).Nodup)&&
 (((fdOf f).scope.names.all fun p=>decide (p.2≠.free)&&(decide (p.2≠.cell)||decide (p.1∈(cellsFrom 0 (fdOf f).scope.names []).map (·.1))))&&
 (decide ((qX f).map (·.2)).Nodup&&(decide (qY f).Nodup&&(decide ((qY f).length=(oh f).params)&&
 (((qY f).all fun x=>decide ((fdOf f).scope.names.lookup x=some .local)||decide ((fdOf f).scope.names.lookup x=some .cell))&&
 ((qX f).all fun p=>decide (p.2<(oh f).params→(qY f)[p.2]? =some p.1))))))))
structure qT(f:Fn):Prop where
 ob:∀w,(KK w).lookup (vh f)=some ⟨.type "function",none,.func (fdOf f), #[]⟩
 bd:(fdOf f).body=.stmts (mh f)
 re:fN (oh f).body (mh f)=mh f
 cD:adx f=true
 code:∀w,∃c o vs t,(fdOf f).code=.ref c∧(KK w).lookup c=some o∧o.data=.fields vs∧vs[1]? =some (.str (fdOf f).qualname t)
 fix:((fdOf f).closure,(fdOf f).globals,(fdOf f).builtins,(fdOf f).scope.kind,(fdOf f).scope.isCoroutine,(fdOf f).scope.isGenerator)=([],mainGlobals,builtinsNs,.function,false,false)
 bind:∀w (s:aB) (as':List Value),(KK w).In s.heap→as'.length≤(oh f).params→(oh f).params≤as'.length+(oh f).nQ.length→
  wQ s (fdOf f) ⟨as',[]⟩ ((qY f).zip (as'++((oh f).nQ.map dV).drop ((oh f).nQ.length -((oh f).params -as'.length))))
section
variable{α:Type}{P:List α→Prop}{m n:Nat}{l:List α}
@[elab_as_elim] theorem jv (h1:l.length≤m+1) (h2:n+1≤l.length) (k:∀a r,r.length≤m→n≤r.length→P (a::r)):P l:=by
 cases l with
 |nil=>exact absurd h2 (Nat.not_succ_le_zero n)
 |cons a r=>exact k a r (Nat.le_of_succ_le_succ h1) (Nat.le_of_succ_le_succ h2)
@[elab_as_elim] theorem opn (h1:l.length≤m+1) (z:P []) (k:∀a r,r.length≤m→P (a::r)):P l:=by
 cases l with
 |nil=>exact z
 |cons a r=>exact k a r (Nat.le_of_succ_le_succ h1)
@[elab_as_elim] theorem uR (h1:l.length≤0) (z:P []):P l:=by
 cases l with
 |nil=>exact z
 |cons a r=>exact absurd h1 (Nat.not_succ_le_zero _)
end
theorem Lj:qT .uC:=by
 refine⟨fun w=>rfl,rfl,by kernel_rfl,by kernel_rfl,fun w=>⟨_,_,_,_,rfl,rfl,rfl,rfl⟩,rfl,?_⟩;intro w s as' X h1 h2;replace h2:1≤as'.length:=Nat.le_of_add_le_add_right (show 1+1≤as'.length+1 from h2);exact jv h1 h2 fun v0 r h1 h2=>opn h1 (oJ rfl (X _ _ rfl) rfl rfl rfl) fun v1 r h1=>uR h1 (oJ rfl (X _ _ rfl) rfl rfl rfl)
theorem Ij:qT .qC:=by
 refine⟨fun w=>rfl,rfl,by kernel_rfl,by kernel_rfl,fun w=>⟨_,_,_,_,rfl,rfl,rfl,rfl⟩,rfl,?_⟩;intro w s as' X h1 h2;replace h2:1≤as'.length:=h2;exact jv h1 h2 fun v0 r h1 h2=>uR h1 (gD rfl)
theorem yi:qT .iC:=by
 refine⟨fun w=>rfl,rfl,by kernel_rfl,by kernel_rfl,fun w=>⟨_,_,_,_,rfl,rfl,rfl,rfl⟩,rfl,?_⟩;intro w s as' X h1 h2;replace h2:1≤as'.length:=h2;exact jv h1 h2 fun v0 r h1 h2=>uR h1 (gD rfl)
theorem uf:qT .cz:=by
 refine⟨fun w=>rfl,rfl,by kernel_rfl,by kernel_rfl,fun w=>⟨_,_,_,_,rfl,rfl,rfl,rfl⟩,rfl,?_⟩;intro w s as' X h1 h2;replace h2:3≤as'.length:=h2;exact jv h1 h2 fun v0 r h1 h2=>jv h1 h2 fun v1 r h1 h2=>jv h1 h2 fun v2 r h1 h2=>uR h1 (gD rfl)
theorem sA:qT .dY:=by
 refine⟨fun w=>rfl,rfl,by kernel_rfl,by kernel_rfl,fun w=>⟨_,_,_,_,rfl,rfl,rfl,rfl⟩,rfl,?_⟩;intro w s as' X h1 h2;replace h2:3≤as'.length:=h2;exact jv h1 h2 fun v0 r h1 h2=>jv h1 h2 fun v1 r h1 h2=>jv h1 h2 fun v2 r h1 h2=>uR h1 (gD rfl)
theorem qO:qT .dI:=by
 refine⟨fun w=>rfl,rfl,by kernel_rfl,by kernel_rfl,fun w=>⟨_,_,_,_,rfl,rfl,rfl,rfl⟩,rfl,?_⟩;intro w s as' X h1 h2;replace h2:2≤as'.length:=Nat.le_of_add_le_add_right (show 2+1≤as'.length+1 from h2);exact jv h1 h2 fun v0 r h1 h2=>jv h1 h2 fun v1 r h1 h2=>opn h1 (oJ rfl (X _ _ rfl) rfl rfl rfl) fun v2 r h1=>uR h1 (oJ rfl (X _ _ rfl) rfl rfl rfl)
theorem ug:qT .cT:=by
 refine⟨fun w=>rfl,rfl,by kernel_rfl,by kernel_rfl,fun w=>⟨_,_,_,_,rfl,rfl,rfl,rfl⟩,rfl,?_⟩;intro w s as' X h1 h2;replace h2:1≤as'.length:=h2;exact jv h1 h2 fun v0 r h1 h2=>uR h1 (gD rfl)
theorem sD:qT .dZ:=by
 refine⟨fun w=>rfl,rfl,by kernel_rfl,by kernel_rfl,fun w=>⟨_,_,_,_,rfl,rfl,rfl,rfl⟩,rfl,?_⟩;intro w s as' X h1 h2;replace h2:1≤as'.length:=h2;exact jv h1 h2 fun v0 r h1 h2=>uR h1 (gD rfl)
theorem Cg:qT .ig:=by
 refine⟨fun w=>rfl,rfl,by kernel_rfl,by kernel_rfl,fun w=>⟨_,_,_,_,rfl,rfl,rfl,rfl⟩,rfl,?_⟩;intro w s as' X h1 h2;replace h2:1≤as'.length:=h2;exact jv h1 h2 fun v0 r h1 h2=>uR h1 (gD rfl)
theorem uh:qT .eH:=by
 refine⟨fun w=>rfl,rfl,by kernel_rfl,by kernel_rfl,fun w=>⟨_,_,_,_,rfl,rfl,rfl,rfl⟩,rfl,?_⟩;intro w s as' X h1 h2;replace h2:4≤as'.length:=h2;exact jv h1 h2 fun v0 r h1 h2=>jv h1 h2 fun v1 r h1 h2=>jv h1 h2 fun v2 r h1 h2=>jv h1 h2 fun v3 r h1 h2=>uR h1 (gD rfl)
theorem sE:qT .d7:=by
 refine⟨fun w=>rfl,rfl,by kernel_rfl,by kernel_rfl,fun w=>⟨_,_,_,_,rfl,rfl,rfl,rfl⟩,rfl,?_⟩;intro w s as' X h1 h2;replace h2:4≤as'.length:=h2;exact jv h1 h2 fun v0 r h1 h2=>jv h1 h2 fun v1 r h1 h2=>jv h1 h2 fun v2 r h1 h2=>jv h1 h2 fun v3 r h1 h2=>uR h1 (gD rfl)
theorem pN:qT .dj:=by
 refine⟨fun w=>rfl,rfl,by kernel_rfl,by kernel_rfl,fun w=>⟨_,_,_,_,rfl,rfl,rfl,rfl⟩,rfl,?_⟩;intro w s as' X h1 h2;replace h2:4≤as'.length:=h2;exact jv h1 h2 fun v0 r h1 h2=>jv h1 h2 fun v1 r h1 h2=>jv h1 h2 fun v2 r h1 h2=>jv h1 h2 fun v3 r h1 h2=>uR h1 (gD rfl)
theorem Lr:qT .wk:=by
 refine⟨fun w=>rfl,rfl,by kernel_rfl,by kernel_rfl,fun w=>⟨_,_,_,_,rfl,rfl,rfl,rfl⟩,rfl,?_⟩;intro w s as' X h1 h2;replace h2:1≤as'.length:=Nat.le_of_add_le_add_right (show 1+1≤as'.length+1 from h2);exact jv h1 h2 fun v0 r h1 h2=>opn h1 (oJ rfl (X _ _ rfl) rfl rfl rfl) fun v1 r h1=>uR h1 (oJ rfl (X _ _ rfl) rfl rfl rfl)
theorem Ls:qT .wm:=by
 refine⟨fun w=>rfl,rfl,by kernel_rfl,by kernel_rfl,fun w=>⟨_,_,_,_,rfl,rfl,rfl,rfl⟩,rfl,?_⟩;intro w s as' X h1 h2;replace h2:1≤as'.length:=Nat.le_of_add_le_add_right (show 1+1≤as'.length+1 from h2);exact jv h1 h2 fun v0 r h1 h2=>opn h1 (oJ rfl (X _ _ rfl) rfl rfl rfl) fun v1 r h1=>uR h1 (oJ rfl (X _ _ rfl) rfl rfl rfl)
theorem Lv:qT .ru:=by
 refine⟨fun w=>rfl,rfl,by kernel_rfl,by kernel_rfl,fun w=>⟨_,_,_,_,rfl,rfl,rfl,rfl⟩,rfl,?_⟩;intro w s as' X h1 h2;replace h2:2≤as'.length:=h2;exact jv h1 h2 fun v0 r h1 h2=>jv h1 h2 fun v1 r h1 h2=>uR h1 (gD rfl)
theorem vf:qT .gJ:=by
 refine⟨fun w=>rfl,rfl,by kernel_rfl,by kernel_rfl,fun w=>⟨_,_,_,_,rfl,rfl,rfl,rfl⟩,rfl,?_⟩;intro w s as' X h1 h2;replace h2:1≤as'.length:=h2;exact jv h1 h2 fun v0 r h1 h2=>uR h1 (gD rfl)
theorem yj:qT .iD:=by
 refine⟨fun w=>rfl,rfl,by kernel_rfl,by kernel_rfl,fun w=>⟨_,_,_,_,rfl,rfl,rfl,rfl⟩,rfl,?_⟩;intro w s as' X h1 h2;replace h2:1≤as'.length:=h2;exact jv h1 h2 fun v0 r h1 h2=>uR h1 (gD rfl)
theorem yS:qT .gO:=by
 refine⟨fun w=>rfl,rfl,by kernel_rfl,by kernel_rfl,fun w=>⟨_,_,_,_,rfl,rfl,rfl,rfl⟩,rfl,?_⟩;intro w s as' X h1 h2;replace h2:1≤as'.length:=h2;exact jv h1 h2 fun v0 r h1 h2=>uR h1 (gD rfl)
theorem yo:qT .gH:=by
 refine⟨fun w=>rfl,rfl,by kernel_rfl,by kernel_rfl,fun w=>⟨_,_,_,_,rfl,rfl,rfl,rfl⟩,rfl,?_⟩;intro w s as' X h1 h2;replace h2:2≤as'.length:=h2;exact jv h1 h2 fun v0 r h1 h2=>jv h1 h2 fun v1 r h1 h2=>uR h1 (gD rfl)
theorem vg:qT .fW:=by
 refine⟨fun w=>rfl,rfl,by kernel_rfl,by kernel_rfl,fun w=>⟨_,_,_,_,rfl,rfl,rfl,rfl⟩,rfl,?_⟩;intro w s as' X h1 h2;replace h2:5≤as'.length:=h2;exact jv h1 h2 fun v0 r h1 h2=>jv h1 h2 fun v1 r h1 h2=>jv h1 h2 fun v2 r h1 h2=>jv h1 h2 fun v3 r h1 h2=>jv h1 h2 fun v4 r h1 h2=>uR h1 (gD rfl)
theorem Lw:qT .aCall:=by
 refine⟨fun w=>rfl,rfl,by kernel_rfl,by kernel_rfl,fun w=>⟨_,_,_,_,rfl,rfl,rfl,rfl⟩,rfl,?_⟩;intro w s as' X h1 h2;replace h2:4≤as'.length:=Nat.le_of_add_le_add_right (show 4+2≤as'.length+2 from h2);exact jv h1 h2 fun v0 r h1 h2=>jv h1 h2 fun v1 r h1 h2=>jv h1 h2 fun v2 r h1 h2=>jv h1 h2 fun v3 r h1 h2=>opn h1 (oJ rfl (X _ _ rfl) rfl rfl rfl) fun v4 r h1=>opn h1 (oJ rfl (X _ _ rfl) rfl rfl rfl) fun v5 r h1=>uR h1 (oJ rfl (X _ _ rfl) rfl rfl rfl)
theorem Ik:qT .jk:=by
 refine⟨fun w=>rfl,rfl,by kernel_rfl,by kernel_rfl,fun w=>⟨_,_,_,_,rfl,rfl,rfl,rfl⟩,rfl,?_⟩;intro w s as' X h1 h2;replace h2:3≤as'.length:=h2;exact jv h1 h2 fun v0 r h1 h2=>jv h1 h2 fun v1 r h1 h2=>jv h1 h2 fun v2 r h1 h2=>uR h1 (gD rfl)
theorem Lx:qT .ry:=by
 refine⟨fun w=>rfl,rfl,by kernel_rfl,by kernel_rfl,fun w=>⟨_,_,_,_,rfl,rfl,rfl,rfl⟩,rfl,?_⟩;intro w s as' X h1 h2;replace h2:3≤as'.length:=h2;exact jv h1 h2 fun v0 r h1 h2=>jv h1 h2 fun v1 r h1 h2=>jv h1 h2 fun v2 r h1 h2=>uR h1 (gD rfl)
theorem Ci:qT .gj:=by
 refine⟨fun w=>rfl,rfl,by kernel_rfl,by kernel_rfl,fun w=>⟨_,_,_,_,rfl,rfl,rfl,rfl⟩,rfl,?_⟩;intro w s as' X h1 h2;replace h2:2≤as'.length:=h2;exact jv h1 h2 fun v0 r h1 h2=>jv h1 h2 fun v1 r h1 h2=>uR h1 (gD rfl)
theorem UY:qT .Cu:=by
 refine⟨fun w=>rfl,rfl,by kernel_rfl,by kernel_rfl,fun w=>⟨_,_,_,_,rfl,rfl,rfl,rfl⟩,rfl,?_⟩;intro w s as' X h1 h2;replace h2:1≤as'.length:=h2;exact jv h1 h2 fun v0 r h1 h2=>uR h1 (gD rfl)
theorem Xk(f:Fn)(h:qG f=false):qT f:=by
 cases f<;>first|(cases h;done)|skip
 ·exact Lj
 ·exact Ij
 ·exact yi
 ·exact uf
 ·exact sA
 ·exact qO
 ·exact ug
 ·exact sD
 ·exact Cg
 ·exact uh
 ·exact sE
 ·exact pN
 ·exact Lr
 ·exact Ls
 ·exact Lv
 ·exact vf
 ·exact yj
 ·exact yS
 ·exact yo
 ·exact vg
 ·exact Lw
 ·exact Ik
 ·exact Lx
 ·exact Ci
 ·exact UY
end
theorem zT{l:Slots}(h:(l.map (·.2)).Nodup):∀x y (i:Nat),l.lookup x=some i→l.lookup y=some i→x=y:=by
 intro x y i h1 h2;haveI m1:=mem_of_lookup h1;haveI m2:=mem_of_lookup h2;clear h1 h2
 induction l with
 |nil=>cases m1
 |cons p l ih=>
  rw[gC,dO]at h;rcases bw.mp m1 with e1|m1'
  ·rcases bw.mp m2 with e2|m2'
   ·exact(O9 (e1.trans e2.symm)).1
   ·exact absurd (show p.2∈l.map (·.2) by haveI:=dF (f:=wZ) m2';exact ez e1 this) h.1
  ·rcases bw.mp m2 with e2|m2'
   ·exact absurd (show p.2∈l.map (·.2) by haveI:=dF (f:=wZ) m1';exact ez e2 this) h.1
   ·exact ih h.2 m1' m2'
theorem qT.static{f:Fn}(c:qT f)(w:bz):Xi w (vh f) (fdOf f) (mh f) (qX f) where
 ob:=⟨_,c.ob w,rfl⟩
 code:=c.code w
 body:=c.bd
 clo:=aR (·.1) c.fix
 gl:=aR (·.2.1) c.fix
 bu:=aR (·.2.2.1) c.fix
 fn:=aR (·.2.2.2.1) c.fix
 co:=aR (·.2.2.2.2.1) c.fix
 BD:=cP (ay (ak c.cD))
 xD n hn:=by
  haveI q:=iE.mp (ay (ak (ak c.cD))) _ (mem_of_lookup hn);exact((rt ..).mp (ak q)).elim (fun y=>absurd rfl (cP y)) cP
 Hh n hn:=by
  haveI q:=iE.mp (ay (ak (ak c.cD))) _ (mem_of_lookup hn);exact cP (ay q) rfl
 ni:=zT (cP (ay (ak (ak (ak c.cD)))))
noncomputable def P9:AV→Bool
 |.none=>true|.bool _=>true|.glob _=>true|_=>false
theorem aaS:∀{l:List AV},l.all P9=true→bh (VR ρ) l (l.map dV):=by
 intro rv
 induction rv with
 |nil=>
  intro _;exact .nil
 |cons a l ih=>
  intro h;rw[OA]at h;refine .cons ?_ (ih (ak h));have q:=ay h;cases a<;>first|rfl|cases q
theorem Rh(f:Fn):(oh f).nQ.all P9=true:=by cases f<;>rfl
theorem Ri(h:Mq i as=some lm):as.length≤i.params∧i.params≤as.length+i.nQ.length∧lm=(as++i.nQ.drop (i.nQ.length -(i.params -as.length))).map some++nO (i.slots -i.params) none:=by
 unfold Mq at h
 split at h
 ·rename_i q;cases h;exact⟨q.1,q.2,rfl⟩
 ·cases h
section
variable{C:Cx}{A:aG}{env:Env}{ρ:List ah}{n:Nat}{f:Fn}{as:List AV}{as':List Value}{lm aI:LM}{H H':Hp}{fl:Fl}{w:AV}{k:Ex}
theorem Rj{p d a:Nat}(h1:a≤p)(h2:p≤a+d):a+(d -(d -(p -a)))=p:=by rw[Nat.sub_sub_self (Nat.sub_le_iff_le_add'.mpr h2),Nat.add_sub_cancel' h1]
theorem BE(hg:qG f=false)(e:Mq (oh f) as=some lm)(hd:A.depth<recursionLimit)(has:iy ρ as as'){full:List AV}(hf:full=as++(oh f).nQ.drop ((oh f).nQ.length -((oh f).params -as.length))):A8 A C.w (vh f) (fdOf f) (mh f) (qX f) ρ as' full lm where
 hd:=hd
 fn:=(Xk f hg).static C.w
 go {P} k:=by
  refine vS (Ri e) fun h1 h2 h3=>?_;haveI c:=Xk f hg;haveI q:=ak (ak (ak (ak c.cD)));haveI pl:(qY f).length=(oh f).params:=cP (ay (ak q));haveI hl:as.length=as'.length:=has.length;haveI fl:full.length=(oh f).params:=by
   (refine aa hf (aa bU ?_);refine aa FZ ?_);exact Rj h1 h2
  subst hf;refine k _ (qY f) _ (fun s X=>c.bind C.w s as' X (hl▸h1) (hl▸h2)) (hl▸has.append ((aaS (Rh f)).drop _)) (pl.trans fl.symm) (cP (ay q)) (fun x hx=>?_) h3 fun x i hx hi=>?_
  ·exact((rt ..).mp (iE.mp (ay (ak (ak q))) x hx)).imp cP cP
  ·rw[fl]at hi;exact cP (iE.mp (ak (ak (ak q))) _ (mem_of_lookup hx)) hi
theorem Kc.callee(K:Kc (n+1) C A)(f:bJ (C.callee aY m' L' X') (A.deeper aY) aY outer):Kx n (C.callee aY m' L' X') (A.deeper aY):=by
 haveI d:=K.dep;haveI u:=K.un;refine⟨⟨K.B,K.hh,?_,?_,_,_,f⟩,?_,?_⟩
 ·show A.depth+1+_+_<_;lia
 ·show A.units+3+_+_<_;lia
 ·show A.depth+1+_+_+_<_;lia
 ·show A.units+3+_+_+_<_;lia
theorem Kc.body(K:Kc (n+1) C A)(c:qT f)(fr:bJ (C.callee aY m' L' X') (A.deeper aY) aY outer)(es:j4 (C.callee aY m' L' X') aY (fdOf f).scope.names (qX f))(h:fS n (oh f).body lm H fl aI H'):
  mX (C.callee aY m' L' X') (A.deeper aY) aY (qX f) lm H fl aI H' (PySem.execs (mh f) aY):=by
 haveI q:=h.go (G:=X6 f) (x:=mh f) (ay c.cD) ⟨⟨(K.callee fr).b,fun _=>K.callee fr,es.ok,es.co⟩,fr,es⟩;rw[c.re]at q;exact q
theorem WH(hg:qG f=false)(e:Mq (oh f) as=some lm)(h:fS n (oh f).body lm H fl aI H')(o:fl.out=some w):Cf (n+1) f as H w H':=⟨fun K has=>K.fr.elim fun _ q=>q.elim fun _ fr=>
 Dv K.B fr (aR (·.2.2.2.2.2) (Xk f hg).fix) (BE hg e (by haveI:=K.dep;lia) has rfl) o fun _ _ _ _ es fr'=>K.body (Xk f hg) fr' es h⟩
theorem wC(hg:qG f=false)(e:Mq (oh f) as=some lm)(h:fS n (oh f).body lm H (.exc k) aI H'):JL (n+1) f as H k H':=⟨fun K has=>K.fr.elim fun _ q=>q.elim fun _ fr=>
 Rg K.B fr (aR (·.2.2.2.2.2) (Xk f hg).fix) (BE hg e (by haveI:=K.dep;lia) has rfl) fun _ _ _ _ es fr'=>K.body (Xk f hg) fr' es h⟩
theorem jY(hg:qG f=false)(e:Mq (oh f) as=some lm)(h:fS n (oh f).body lm H (.ret w) aI H'):Cf (n+1) f as H w H':=WH hg e h rfl
theorem iB(hg:qG f=false)(e:Mq (oh f) as=some lm)(h:fS n (oh f).body lm H .next aI H'):Cf (n+1) f as H .none H':=WH hg e h rfl
end
open PySem (Str)
section
variable{α:Type}{lt:α→α→Bool}
theorem Dy(x:α):∀l:List α,(ins lt x l).Perm (x::l):=by
 intro rv
 induction rv with
 |nil=>
  exact .refl _
 |cons y ys ih=>
  by_cases q:lt x y=true
  ·exact aa (Wl q) (.refl _)
  ·exact aa (Wm q) (((ih).cons y).trans (.swap x y ys))
theorem cj:∀l:List α,(cJ lt l).Perm l:=by
 intro rv
 induction rv with
 |nil=>
  exact .refl _
 |cons x xs ih=>
  exact(Dy x _).trans ((ih).cons x)
theorem Il:∀{l:List α},(∀a∈x::l,∀b∈x::l,∀c∈x::l,lt a b=true→lt b c=true→lt a c=true)→(∀y∈l,lt x y=false→lt y x=true)→l.Pairwise (fun a b=>lt a b=true)→(ins lt x l).Pairwise (fun a b=>lt a b=true):=by
 intro rv
 induction rv with
 |nil=>
  intro _ _ _;exact List.pairwise_singleton _ _
 |cons y ys ih=>
  intro tr Af h;rw[zg]at h
  by_cases q:lt x y=true
  ·refine aa (Wl q) (zg.mpr ⟨fun z hz=>?_,zg.mpr h⟩);rcases bw.mp hz with rfl|hz
   ·exact q
   ·exact tr x (.head _) y (.tail _ (.head _)) z (.tail _ (.tail _ hz)) q (h.1 z hz)
  ·refine aa (Wm q) ?_;haveI q':lt y x=true:=Af y (.head _) (eq_false_of_ne_true q);have sub:∀a,a∈x::ys→a∈x::y::ys:=fun a ha=>by
    rcases bw.mp ha with rfl|ha
    ·exact .head _
    ·exact .tail _ (.tail _ ha)
   refine zg.mpr ⟨fun z hz=>?_,ih (fun a ha b hb c hc=>tr a (sub a ha) b (sub b hb) c (sub c hc)) (fun z hz=>Af z (.tail _ hz)) h.2⟩;rcases bw.mp ((Dy x ys).mem_iff.mp hz)with rfl|hz
   ·exact q'
   ·exact h.1 z hz
theorem nJ:∀{l:List α},(∀a∈l,∀b∈l,∀c∈l,lt a b=true→lt b c=true→lt a c=true)→l.Pairwise (fun a b=>lt a b=true∨lt b a=true)→(cJ lt l).Pairwise (fun a b=>lt a b=true):=by
 intro rv
 induction rv with
 |nil=>
  intro _ _;exact .nil
 |cons x xs ih=>
  intro tr Af;rw[zg]at Af;have mem:∀a,a∈x::cJ lt xs→a∈x::xs:=fun a ha=>by
   rcases bw.mp ha with rfl|ha
   ·exact .head _
   ·exact .tail _ ((cj xs).mem_iff.mp ha)
  refine Il (fun a ha b hb c hc=>tr a (mem a ha) b (mem b hb) c (mem c hc)) (fun y hy q=>?_) (ih (fun a ha b hb c hc=>tr a (.tail _ ha) b (.tail _ hb) c (.tail _ hc)) Af.2);rcases Af.1 y ((cj xs).mem_iff.mp hy)with h|h
  ·rw[q]at h;cases h
  ·exact h
theorem ju:∀{l m:List α},(∀a∈l,∀b∈l,lt a b=true→lt b a=false)→l.Perm m→l.Pairwise (fun a b=>lt a b=true)→m.Pairwise (fun a b=>lt a b=true)→l=m
 |[],m,_,p,_,_=>(F7.mp p).symm
 |x::xs,[],_,p,_,_=>absurd p.length_eq (by simp)
 |x::xs,y::ys,as,p,h1,h2=>by
  rw[zg]at h1 h2;haveI e:x=y:=by
   haveI hx:x∈y::ys:=p.mem_iff.mp (.head _);have hy:y∈x::xs:=p.mem_iff.mpr (.head _);rcases bw.mp hx with e|hx
   ·exact e
   ·rcases bw.mp hy with e|Xl
    ·exact e.symm
    ·have a1:=h1.1 y Xl;have a2:=h2.1 x hx;rw[as x (.head _) y hy a1]at a2;cases a2
  subst e;rw[ju (fun a ha b hb=>as a (.tail _ ha) b (.tail _ hb)) ((List.perm_cons x).mp p) h1.2 h2.2]
end
theorem lJ(h1:strLt a b=true)(h2:strLt b c=true):strLt a c=true:=by
 unfold strLt at*;exact bN (List.lt_trans (cP h1) (cP h2))
theorem lM(h1:strLt a b=true):strLt b a=false:=by
 unfold strLt at*;exact bP (List.lt_asymm (cP h1))
theorem pK(h:a≠b):strLt a b=true∨strLt b a=true:=by
 delta strLt;haveI lU:a.cps.toList≠b.cps.toList:=fun e=>h (by cases a;cases b;simp_all [Array.toList_inj]);rcases O7 (a.cps.toList<b.cps.toList)with q|q
 ·exact .inl (bN q)
 ·rcases O7 (b.cps.toList<a.cps.toList)with z|z
  ·exact .inr (bN z)
  ·exact absurd (List.le_antisymm (List.not_lt.mp z) (List.not_lt.mp q)) lU
theorem Cj(h:ie x y=true):ie y x=false:=by
 unfold ie at*
 by_cases e1:x.1=y.1
 ·rw[aF e1]at h;rw[aF e1.symm]
  by_cases e2:x.2.1=y.2.1
  ·rw[aF e2]at h;rw[aF e2.symm];exact lM h
  ·rw[au e2]at h;rw[au (dg e2)];exact bP (Int.not_lt.mpr (Int.le_of_lt (cP h)))
 ·rw[au e1]at h;rw[au (dg e1)];exact bP (Int.not_lt.mpr (Int.le_of_lt (cP h)))
theorem Ck(h:ie x y=true)(g:ie y z=true):ie x z=true:=by
 unfold ie at*
 by_cases e1:x.1=y.1
 ·rw[aF e1]at h
  by_cases e2:y.1=z.1
  ·rw[aF e2]at g;rw[aF (e1.trans e2)]
   by_cases f1:x.2.1=y.2.1
   ·rw[aF f1]at h
    by_cases f2:y.2.1=z.2.1
    ·rw[aF f2]at g;rw[aF (f1.trans f2)];exact lJ h g
    ·rw[au f2]at g;rw[au (fun q=>f2 (f1.symm.trans q)),f1];exact g
   ·rw[au f1]at h
    by_cases f2:y.2.1=z.2.1
    ·rw[au (fun q=>f1 (q.trans f2.symm)),←f2];exact h
    ·rw[au f2]at g;have h':=cP h;have g':=cP g;rw[au (Int.ne_of_lt (Int.lt_trans h' g'))];exact bN (Int.lt_trans h' g')
  ·rw[au e2]at g;rw[au (fun q=>e2 (e1.symm.trans q)),e1];exact g
 ·rw[au e1]at h
  by_cases e2:y.1=z.1
  ·rw[au (fun q=>e1 (q.trans e2.symm)),←e2];exact h
  ·rw[au e2]at g;have h':=cP h;have g':=cP g;rw[au (Int.ne_of_lt (Int.lt_trans h' g'))];exact bN (Int.lt_trans h' g')
theorem Im(h:x≠y):ie x y=true∨ie y x=true:=by
 unfold ie
 by_cases e1:x.1=y.1
 ·rw[aF e1,aF e1.symm]
  by_cases e2:x.2.1=y.2.1
  ·rw[aF e2,aF e2.symm];refine pK fun q=>h ?_;obtain⟨a,b,c⟩:=x;obtain⟨a',b',c'⟩:=y
   simp_all
  ·rw[au e2,au (dg e2)];rcases Int.lt_or_gt_of_ne e2 with q|q
   ·exact .inl (bN q)
   ·exact .inr (bN q)
 ·rw[au e1,au (dg e1)];rcases Int.lt_or_gt_of_ne e1 with q|q
  ·exact .inl (bN q)
  ·exact .inr (bN q)
theorem lO:∀{a b:List Int},cL a b=true→cL b a=false
 |[],[],h=>by cases h
 |[],_::_,_=>rfl
 |_::_,[],h=>by cases h
 |x::xs,y::ys,h=>by
  by_cases e:x=y
  ·exact(CI e.symm).trans (lO ((CI e).symm.trans h))
  ·exact(uU (dg e)).trans (bP (Int.not_lt.mpr (Int.le_of_lt (cP ((uU e).symm.trans h)))))
theorem lR:∀{a b c:List Int},cL a b=true→cL b c=true→cL a c=true
 |[],[],_,h,_=>by cases h
 |[],_::_,[],_,g=>by cases g
 |[],_::_,_::_,_,_=>rfl
 |_::_,[],_,h,_=>by cases h
 |_::_,_::_,[],_,g=>by cases g
 |x::xs,y::ys,z::zs,h,g=>by
  by_cases e1:x=y
  ·by_cases e2:y=z
   ·exact(CI (e1.trans e2)).trans (lR ((CI e1).symm.trans h) ((CI e2).symm.trans g))
   ·exact(uU (fun q=>e2 (e1.symm.trans q))).trans (e1▸(uU e2).symm.trans g)
  ·by_cases e2:y=z
   ·exact(uU (fun q=>e1 (q.trans e2.symm))).trans (e2▸(uU e1).symm.trans h)
   ·have k:=Int.lt_trans (cP ((uU e1).symm.trans h)) (cP ((uU e2).symm.trans g));exact(uU (Int.ne_of_lt k)).trans (bN k)
theorem pL:∀{a b:List Int},a≠b→cL a b=true∨cL b a=true
 |[],[],h=>absurd rfl h
 |[],_::_,_=>.inl rfl
 |_::_,[],_=>.inr rfl
 |x::xs,y::ys,h=>by
  by_cases e:x=y
  ·exact(pL fun q=>h (by rw[e,q])).imp (CI e).trans (CI e.symm).trans
  ·exact(Int.lt_or_gt_of_ne e).imp (fun q=>(uU e).trans (bN q)) fun q=>(uU (dg e)).trans (bN q)
theorem sr{lt:β→β→Bool}{l:List α}(h:(l.map f).Nodup)(Af:∀a b,a≠b→lt a b=true∨lt b a=true):l.Pairwise (fun a b=>lt (f a) (f b)=true∨lt (f b) (f a)=true):=by
 haveI:=zh.mp h;exact this.imp fun Xc=>Af _ _ Xc
def uq(n:Nat)(Mu:Nat→Nat→Bool){α:Type}:KasT α→α→Prop
 |.ret b,a=>b=a
 |.ask i j k,a=>i<n∧j<n∧uq n Mu (k (Mu i j)) a
section
variable{n:Nat}{Mu:Nat→Nat→Bool}{α β:Type}
theorem uq.ret(a:α):uq n Mu (.ret a) a:=rfl
theorem uq.ask(hi:i<n)(hj:j<n)(r:uq n Mu (k (Mu i j)) a):uq n Mu (.ask i j k) a:=⟨hi,hj,r⟩
theorem uq.bind(h:uq n Mu t a)(g:uq n Mu (f a) b):uq n Mu (t.bind f) b:=by
 induction t with
 |ret c=>exact h▸g
 |ask i j k ih=>exact⟨h.1,h.2.1,ih _ h.2.2⟩
end
structure vZ(n:Nat)(lt:Nat→Nat→Bool):Prop where
 tr:∀i j k,i<n→j<n→k<n→lt i j=true→lt j k=true→lt i k=true
 Af:∀i j,i<n→j<n→i≠j→lt i j=false→lt j i=true
 irr:∀i j,i<n→j<n→lt i j=true→lt j i=false
structure gi(n:Nat)(p:Array Nat):Prop where
 perm:p.toList.Perm (kO n)
theorem gi.size(h:gi n p):p.size=n:=by
 haveI:=h.perm.length_eq
 simpa using this
theorem gi.lt(h:gi n p)(hi:i<n):p.getD i 0<n:=by
 haveI hs:i<p.size:=h.size▸hi;haveI:p.getD i 0∈p.toList:=by
  rw[Array.getD,dif_pos hs];exact Array.mem_toList_iff.mpr (Array.getElem_mem hs)
 exact F6.mp (h.perm.mem_iff.mp this)
theorem gi.ne(h:gi n p)(hi:i<n)(hj:j<n)(sH:i≠j):p.getD i 0≠p.getD j 0:=by
 haveI hs:i<p.size:=h.size▸hi;haveI ht:j<p.size:=h.size▸hj;haveI nd:p.toList.Nodup:=h.perm.nodup_iff.mpr List.nodup_range;rw[Array.getD,dif_pos hs,Array.getD,dif_pos ht];intro e;haveI e':p[i]=p[j]:=e;haveI e2:p.toList[i]'(by simpa using hs)=p.toList[j]'(by simpa using ht):=by simpa using e'
 exact sH ((F4 nd).mp e2)
theorem gi.Jm(h:gi n p)(e:q.Perm p):gi n q:=⟨(Array.perm_iff_toList_perm.mp e).trans h.perm⟩
theorem DA(p:Array Nat)(i:Nat):p.getD i 0=(p[i]?).getD 0:=by
 by_cases h:i<p.size<;>simp[Array.getD,h]
theorem getD_eq{p q:Array Nat}(h:p[i]? =q[j]?):p.getD i 0=q.getD j 0:=by
 rw[DA,DA,h]
def qb(lt:Nat→Nat→Bool)(p:Array Nat)(m:Nat):Prop:=∀i j,i<j→j<m→lt (p.getD i 0) (p.getD j 0)=true
def wD(lt:Nat→Nat→Bool)(p:Array Nat)(m:Nat):Prop:=∀i j,i<j→j<m→lt (p.getD j 0) (p.getD i 0)=true
section
variable{n:Nat}{lt:Nat→Nat→Bool}{p:Array Nat}
theorem uq.pos[Decidable c](h:c)(k:uq n lt t a):uq n lt (if c then t else e) a:=by
 rw[aF h];exact k
theorem uq.neg[Decidable c](h:¬c)(k:uq n lt e a):uq n lt (if c then t else e) a:=by
 rw[au h];exact k
theorem qb.step(o:vZ n lt)(hp:gi n p)(hk:c+1<n)(a:qb lt p (c+1))(h:lt (p.getD c 0) (p.getD (c+1) 0)=true):qb lt p (c+1+1):=by
 intro i j sH hj;rcases Nat.lt_or_eq_of_le (Nat.le_of_lt_succ hj)with q|q
 ·exact a i j sH q
 ·subst q;have k0:c<n:=Nat.lt_of_succ_lt hk;rcases Nat.lt_or_eq_of_le (Nat.le_of_lt_succ sH)with r|r
  ·exact o.tr _ _ _ (hp.lt (Nat.lt_trans r k0)) (hp.lt k0) (hp.lt hk) (a i c r (Nat.lt_succ_self c)) h
  ·subst r;exact h
theorem wD.step(o:vZ n lt)(hp:gi n p)(hk:c+1<n)(a:wD lt p (c+1))(h:lt (p.getD (c+1) 0) (p.getD c 0)=true):wD lt p (c+1+1):=by
 intro i j sH hj;rcases Nat.lt_or_eq_of_le (Nat.le_of_lt_succ hj)with q|q
 ·exact a i j sH q
 ·subst q;have k0:c<n:=Nat.lt_of_succ_lt hk;rcases Nat.lt_or_eq_of_le (Nat.le_of_lt_succ sH)with r|r
  ·exact o.tr _ _ _ (hp.lt hk) (hp.lt k0) (hp.lt (Nat.lt_trans r k0)) h (a i c r (Nat.lt_succ_self c))
  ·subst r;exact h
theorem acf(h:c+1+(f+1)≤n):c+1+1+f≤n∧c+1<n∧c<n:=by
 have k:c+1<n:=Nat.lt_of_lt_of_le (Nat.lt_succ_of_le (Nat.le_add_right (c+1) f)) h;exact⟨Nat.add_right_comm (c+1) f 1▸h,k,Nat.lt_of_succ_lt k⟩
theorem Qa(o:vZ n lt)(hp:gi n p):∀(f c:Nat),c+1+f≤n→qb lt p (c+1)→∃m,uq n lt (kas_asc p f (c+1)) (m+1)∧m+1≤n∧qb lt p (m+1)∧(m=c+f∨m+1<n∧lt (p.getD (m+1) 0) (p.getD m 0)=true):=by
 intro f
 induction f with
 |zero=>exact fun c hk a=>⟨c,.ret _,hk,a,.inl rfl⟩
 |succ f ih=>
  intro c hk a;refine vS (acf hk) fun sI k1 k0=>?_
  by_cases q:lt (p.getD (c+1) 0) (p.getD c 0)=true
  ·exact⟨c,.ask (hp.lt k1) (hp.lt k0) (.pos q (.ret _)),Nat.le_of_lt k1,a,.inr ⟨k1,q⟩⟩
  ·exact(ih (c+1) sI (a.step o hp k1 (o.Af _ _ (hp.lt k1) (hp.lt k0) (hp.ne k1 k0 (Nat.succ_ne_self c)) (eq_false_of_ne_true q)))).imp fun m e=>⟨.ask (hp.lt k1) (hp.lt k0) (.neg q e.1),e.2.1,e.2.2.1,e.2.2.2.imp (fun h=>h.trans (Nat.succ_add c f)) id⟩
theorem UZ(o:vZ n lt)(hp:gi n p):∀(f c:Nat),c+1+f≤n→wD lt p (c+1)→∃m,uq n lt (kas_desc f p (c+1) 0) (p,m+1,0)∧m+1≤n∧wD lt p (m+1):=by
 intro f
 induction f with
 |zero=>exact fun c hk a=>⟨c,.ret _,hk,a⟩
 |succ f ih=>
  intro c hk a;refine vS (acf hk) fun sI k1 k0=>?_
  by_cases q:lt (p.getD (c+1) 0) (p.getD c 0)=true
  ·exact(ih (c+1) sI (a.step o hp k1 q)).imp fun m e=>⟨.ask (hp.lt k1) (hp.lt k0) (.pos q (.neg (Nat.lt_irrefl 0) e.1)),e.2⟩
  ·exact⟨c,.ask (hp.lt k1) (hp.lt k0) (.neg q (.ask (hp.lt k0) (hp.lt k1) (.pos (o.Af _ _ (hp.lt k1) (hp.lt k0) (hp.ne k1 k0 (Nat.succ_ne_self c)) (eq_false_of_ne_true q)) (.ret _)))),Nat.le_of_lt k1,a⟩
theorem Jo{m:Nat}(hm:m≤p.size)(hi:i<m):(kas_rev p 0 m).getD i 0=p.getD (m -1 -i) 0:=
 getD_eq ((getElem?_mirror_all hm i).trans ((aF ⟨Nat.zero_le _,hi⟩).trans (by rw[Nat.zero_add])))
theorem U0(hm:m≤p.size)(d:wD lt p m):qb lt (kas_rev p 0 m) m:=by
 intro i j sH hj
 (refine aa (Jo hm (Nat.lt_trans sH hj)) (aa (Jo hm hj) ?_))
 exact d _ _ (Nat.sub_lt_sub_left (Nat.lt_of_lt_of_le sH (Nat.le_pred_of_lt hj)) sH) (Nat.lt_of_le_of_lt (Nat.sub_le (m -1) i) (Nat.pred_lt (Nat.ne_of_gt (Nat.lt_of_le_of_lt (Nat.zero_le j) hj))))
theorem Rk(o:vZ n lt)(hp:gi n p)(h1:1≤n):∃m q,uq n lt (kas_count n p) (m,q)∧1≤m∧m≤n∧gi n q∧qb lt q m:=by
 delta kas_count;have z:∀{i j:Nat},i<j→j<1→False:=fun h k=>Nat.not_lt_zero _ (Nat.lt_of_lt_of_le h (Nat.le_of_lt_succ k));refine JZ (Qa o hp (n -1) 0 (Nat.le_of_eq (Nat.add_sub_of_le h1)) (fun i j sH hj=>(z sH hj).elim)) fun m e le a d=>?_
 by_cases q1:(m+1==n)=true
 ·exact⟨m+1,p,e.bind (.pos q1 (.ret _)),Nat.succ_le_succ (Nat.zero_le m),le,hp,a⟩
 ·cases m with
  |succ m=>exact⟨m+2,p,e.bind (.neg q1 (.pos (Nat.succ_lt_succ (Nat.succ_pos m)) (.ask (hp.lt h1) (hp.lt le) (.pos (a 0 (m+1) (Nat.succ_pos m) (Nat.lt_succ_self _)) (.ret _))))),Nat.succ_le_succ (Nat.zero_le _),le,hp,a⟩
  |zero=>
   rcases d with d|d
   ·exact absurd (beq_iff_eq.mpr ((aR Nat.succ (d.trans (Nat.zero_add _))).trans (Nat.sub_add_cancel h1))) q1
   ·refine kZ (UZ o hp (n -(1+1)) 1 (Nat.le_of_eq (Nat.add_sub_of_le d.1)) (wD.step (c:=0) o hp d.1 (fun i j sH hj=>(z sH hj).elim) d.2)) fun m' e' le' D=>?_;have hr:gi n (kas_rev p 0 (m'+1)):=hp.Jm (mirror_perm _ _ _ _);refine JZ (Qa o hr (n -(m'+1)) m' (Nat.le_of_eq (Nat.add_sub_of_le le')) (U0 (hp.size.symm▸le') D)) fun S7 e'' ady IL _=>?_;exact⟨S7+1,kas_rev p 0 (m'+1),e.bind (.neg q1 (.neg (Nat.lt_irrefl 1) (uq.bind e' (.neg (Nat.lt_irrefl 0) (uq.bind e'' (.ret _)))))),Nat.succ_le_succ (Nat.zero_le _),ady,hr,IL⟩
structure MG(lt:Nat→Nat→Bool)(p:Array Nat)(k l r:Nat):Prop where
 lr:l≤r
 rk:r≤k
 lo:∀i,i<l→lt (p.getD i 0) (p.getD k 0)=true
 hi:∀i,r≤i→i<k→lt (p.getD k 0) (p.getD i 0)=true
theorem adz(h:l≥r):kas_place p k (f+1) l r=.ret l:=aF h
theorem adA(h:¬l≥r):kas_place p k (f+1) l r=.ask (p.getD k 0) (p.getD ((l+r)/2) 0) fun c=>if c=true then kas_place p k f l ((l+r)/2)else kas_place p k f ((l+r)/2+1) r:=au h
theorem MG.z(P:MG lt p k l r)(h:r≤l):MG lt p k l l:=Nat.le_antisymm P.lr h▸P
theorem MG.lf(P:MG lt p k l r)(o:vZ n lt)(hp:gi n p)(hk:k<n)(a:qb lt p k)(lm:l≤m)(mk:m<k)(c:lt (p.getD k 0) (p.getD m 0)=true):MG lt p k l m:=
 ⟨lm,Nat.le_of_lt mk,P.lo,fun i h1 h2=>(Nat.lt_or_eq_of_le h1).elim (fun h=>o.tr _ _ _ (hp.lt hk) (hp.lt (Nat.lt_trans mk hk)) (hp.lt (Nat.lt_trans h2 hk)) c (a _ _ h h2)) fun h=>h▸c⟩
theorem MG.rg(P:MG lt p k l r)(o:vZ n lt)(hp:gi n p)(hk:k<n)(a:qb lt p k)(mr:m<r)(mk:m<k)(c:lt (p.getD m 0) (p.getD k 0)=true):MG lt p k (m+1) r:=
 ⟨mr,P.rk,fun i h=>(Nat.lt_or_eq_of_le (Nat.le_of_lt_succ h)).elim (fun h=>o.tr _ _ _ (hp.lt (Nat.lt_trans (Nat.lt_trans h mk) hk)) (hp.lt (Nat.lt_trans mk hk)) (hp.lt hk) (a _ _ h mk) c) fun h=>h▸c,P.hi⟩
theorem Rl(o:vZ n lt)(hp:gi n p)(hk:k<n)(a:qb lt p k):∀(f l r:Nat),r≤l+f→MG lt p k l r→∃m,uq n lt (kas_place p k f l r) m∧MG lt p k m m:=by
 intro f
 induction f with
 |zero=>exact fun l r hf P=>⟨l,.ret _,P.z hf⟩
 |succ f ih=>
  intro l r hf P
  by_cases q:l≥r
  ·exact aa (adz q) ⟨l,.ret _,P.z q⟩
  ·refine aa (adA q) ?_;have hm:l≤(l+r)/2∧(l+r)/2<r:=by lia
   generalize(l+r)/2=m at hm;have mk:m<k:=Nat.lt_of_lt_of_le hm.2 P.rk
   by_cases c:lt (p.getD k 0) (p.getD m 0)=true
   ·exact(ih l m (Nat.le_of_lt_succ (Nat.lt_of_lt_of_le hm.2 hf)) (P.lf o hp hk a hm.1 mk c)).imp fun m' e=>⟨.ask (hp.lt hk) (hp.lt (Nat.lt_trans mk hk)) (by exact aa (aF c) e.1),e.2⟩
   ·exact(ih (m+1) r (by lia) (P.rg o hp hk a hm.2 mk (o.Af _ _ (hp.lt hk) (hp.lt (Nat.lt_trans mk hk)) (hp.ne hk (Nat.lt_trans mk hk) (Nat.ne_of_gt mk)) (eq_false_of_ne_true c)))).imp fun m' e=>⟨.ask (hp.lt hk) (hp.lt (Nat.lt_trans mk hk)) (by exact aa (au c) e.1),e.2⟩
theorem Io{k l:Nat}(hp:gi n p)(hk:k<n)(hl:l≤k)(a:qb lt p k)(h1:∀i,i<l→lt (p.getD i 0) (p.getD k 0)=true)(h2:∀i,l≤i→i<k→lt (p.getD k 0) (p.getD i 0)=true):qb lt (bubble p k (k -l)) (k+1):=by
 have hs:k<p.size:=hp.size▸hk;have B:∀j,(bubble p k (k -l))[j]? =if j=l then p[k]? else if l<j∧j≤k then p[j -1]? else p[j]? :=fun j=>by
  have:=getElem?_bubble hs (k -l) (Nat.sub_le _ _) j;rw[Nat.sub_sub_self hl]at this;exact this
 have g1:∀{j},j=l→(bubble p k (k -l)).getD j 0=p.getD k 0:=fun{j} e=>getD_eq ((B j).trans (aF e));have g2:∀{j},l≤j→j<k→(bubble p k (k -l)).getD (j+1) 0=p.getD j 0:=fun{j} h1 h2=>getD_eq ((B (j+1)).trans ((au (Nat.ne_of_gt (Nat.lt_succ_of_le h1))).trans (aF ⟨Nat.lt_succ_of_le h1,h2⟩)));have g3:∀{j},j<l→(bubble p k (k -l)).getD j 0=p.getD j 0:=fun{j} h=>getD_eq ((B j).trans ((au (Nat.ne_of_lt h)).trans (au fun q=>Nat.lt_asymm h q.1)));intro i j sH hj;rcases Nat.lt_trichotomy j l with c|c|c
 ·(refine aa (g3 c) (aa (g3 (Nat.lt_trans sH c)) ?_))
  exact a _ _ sH (Nat.lt_of_lt_of_le c hl)
 ·(refine aa (g3 (c▸sH)) (aa (g1 c) ?_))
  exact h1 i (c▸sH)
 ·cases j with
  |zero=>exact absurd c (Nat.not_lt_zero _)
  |succ j=>
   have hj:=Nat.lt_of_succ_lt_succ hj;have lj:=Nat.le_of_lt_succ c;refine aa (g2 lj hj) ?_;rcases Nat.lt_trichotomy i l with d|d|d
   ·exact aa (g3 d) (a _ _ (Nat.lt_of_lt_of_le d lj) hj)
   ·exact aa (g1 d) (h2 j lj hj)
   ·cases i with
    |zero=>exact absurd d (Nat.not_lt_zero _)
    |succ i=>
     exact aa (g2 (Nat.le_of_lt_succ d) (Nat.lt_trans (Nat.lt_of_succ_lt_succ sH) hj)) (a _ _ (Nat.lt_of_succ_lt_succ sH) hj)
theorem ZE(o:vZ n lt):∀(f k:Nat)(p:Array Nat),k+f≤n→gi n p→qb lt p k→∃q,uq n lt (kas_bin f p k) q∧gi n q∧qb lt q (k+f):=by
 intro f
 induction f with
 |zero=>exact fun k p hk hp a=>⟨p,.ret _,hp,a⟩
 |succ f ih=>
  intro k p hk hp a;have e0:k+(f+1)=k+1+f:=Nat.add_right_comm k f 1;have sI:k+1+f≤n:=e0▸hk;have kn:k<n:=Nat.lt_of_lt_of_le (Nat.lt_succ_of_le (Nat.le_add_right k f)) hk;refine bE (Rl o hp kn a k 0 k (Nat.le_add_left _ _) ⟨Nat.zero_le _,Nat.le_refl _,fun i h=>absurd h (Nat.not_lt_zero i),fun i h1 h2=>absurd h2 (Nat.not_lt.mpr h1)⟩) fun m e P=>?_;refine kZ (ih (k+1) (bubble p k (k -m)) sI (hp.Jm (bubble_perm _ _ _)) (Io hp kn P.rk a P.lo P.hi)) fun q e' q1 q2=>?_;exact⟨q,uq.bind (f:=fun l=>kas_bin f (bubble p k (k -l)) (k+1)) e e',q1,e0▸q2⟩
theorem U1(o:vZ n lt)(h1:1≤n):∃q,uq n lt (kas_sort n) q∧gi n q∧qb lt q n:=by
 unfold kas_sort;refine abO (Rk (p:=AR (kO n)) o ⟨by simp⟩ h1) fun m q e m1 m2 m3 m4=>?_
 by_cases c:m<n
 ·refine kZ (ZE o (n -m) m q (Nat.le_of_eq (Nat.add_sub_of_le m2)) m3 m4) fun q' e' k1 k2=>?_;refine⟨q',e.bind ?_,k1,Nat.add_sub_of_le m2▸k2⟩;dsimp only
  (refine aa (aF c) (aa (Nat.max_eq_left m1) ?_))
  exact e'
 ·obtain rfl:m=n:=Nat.le_antisymm m2 (Nat.not_lt.mp c);refine⟨q,e.bind ?_,m3,m4⟩;dsimp only;exact aa (au c) (.ret _)
end
theorem ZF{s:aB}(hc:∀i j,i<n→j<n→∀(C:Bool→aB→Prop) tk,(∀um,C (Mu i j) {s with toks:=um})→cmp i j C {s with toks:=tk})
  {a:α} (h:uq n Mu t a):∀(tk:Nat)(Q:α→aB→Prop),(∀um,Q a {s with toks:=um})→t.kasWp cmp Q {s with toks:=tk}:=by
 induction t with
 |ret c=>intro tk Q hQ;cases h;exact hQ tk
 |ask i j k ih=>intro tk Q hQ;exact hc _ _ h.1 h.2.1 _ tk fun um=>ih _ h.2.2 um Q hQ
section
variable{C:Cx}{A:aG}{ρ:List ah}{H:Hp}{s:aB}
theorem Ej{d:α}(hp:gi rs.length p)(ha:qb (fun i j=>lt (rs.getD i d) (rs.getD j d)) p rs.length)
  (tr:∀a∈rs,∀b∈rs,∀c∈rs,lt a b=true→lt b c=true→lt a c=true) (as:∀a∈rs,∀b∈rs,lt a b=true→lt b a=false) (Af:rs.Pairwise (fun a b=>lt a b=true∨lt b a=true)):
  p.toList.map (fun i=>rs.getD i d)=cJ lt rs:=by
 have pm:(p.toList.map (fun i=>rs.getD i d)).Perm rs:=by
  haveI h1:=hp.perm.map (fun i=>rs.getD i d);haveI h2:(kO rs.length).map (fun i=>rs.getD i d)=rs:=by
   apply Ou
   ·simp
   ·intro i h1 h2;simp[h2]
  rwa [h2]at h1
 refine ju (lt:=lt) (fun a ha' b hb=>as a (pm.mem_iff.mp ha') b (pm.mem_iff.mp hb)) (pm.trans (cj rs).symm) ?_ (nJ tr Af);rw[zh,Oa];intro i j hi hj sH;haveI hs:=hp.size;haveI VY:i<p.size:=by simpa using hi
 haveI hj':j<p.size:=by simpa using hj
 haveI:=ha i j sH (by lia);rw[Array.getD,dif_pos VY,Array.getD,dif_pos hj']at this;exact this
end
section
variable{prog:Program}{w:bz}{A:aG}{s:aB}{E:Value→aB→Prop}
def oS(vs:Array Value)(is:List Int):Prop:=bh (fun i v=> ∃t,v=.int i t) is vs.toList
theorem oS.get(h:oS vs is){i:Nat}(hx:is[i]? =some x):∃t,vs[i]? =some (.int x t):=by
 obtain⟨b,hb,t,rfl⟩:=bh.get h hx;exact⟨t,by simpa using hb⟩
theorem oS.size(h:oS vs is):vs.size=is.length:=by
 haveI:=bh.length h
 simpa using this.symm
theorem Cp{ia ib:List Int}(hA:oS va ia)(hB:oS vb ib):∀(k i:Nat),ia.length -i=k→i≤ia.length→i≤ib.length→
  ∀(R:kC→aB→Prop)(hp:Heap)(g:Array oX)(d:Drawn)(tk:Nat)(os:AD),hp.get? a=some ⟨.type "list",da,.seq va na,sa⟩→hp.get? b=some ⟨.type "list",db,.seq vb nb,sb⟩→(∀tk,R (.ok (.ret (.bool (cL (ia.drop i) (ib.drop i))))) ⟨hp,g,d,tk,os⟩)→
  wpAny (model prog w) A.in1 (Builtin.«list.__eq__.loop» ⟨[.ref a,.ref b,rawInt i,rawInt 0],[]⟩) (fun fin s'=>match fin with|.done f=>R (.ok f) s'|.again c'=>c'.quiet=true∧codeAny (model prog w) A c' R s') (fun e s'=>R (.error e) s') ⟨hp,g,d,tk,os⟩:=by
 intro k
 induction k with
 |zero=>
  intro i hk h1 h2 R hp g d tk os hl hb hR;haveI hi:i=ia.length:=Nat.le_antisymm h1 (Nat.le_of_sub_eq_zero hk);haveI ea:va[((i:Nat):Int).toNat]? =none:=by rw[Int.toNat_natCast];simp[hA.size,hi]
  wp_walk using nM hl,nM hb
  refine aa ea ?_
  wp_walk using nM hl,nM hb
  haveI e1:ia.drop i=[]:=by simp[hi]
  haveI:cL (ia.drop i) (ib.drop i)=decide (va.size<vb.size):=by
   (refine aa e1 (aa hA.size ?_);refine aa hB.size ?_)
   by_cases q:i<ib.length
   ·obtain⟨y,ys,e2⟩:∃y ys,ib.drop i=y::ys:=⟨_,_,(AG q)⟩;exact aa e2 ((bN (hi▸q)).symm)
   ·exact aa (C1 (Nat.le_of_not_lt q)) ((bP (hi▸q)).symm)
  haveI h:=hR tk;rw[this]at h;exact h
 |succ k ih=>
  intro i hk h1 h2 R hp g d tk os hl hb hR;haveI kJ:i<ia.length:=Nat.lt_of_sub_eq_succ hk;obtain⟨x,xs,e1⟩:∃x xs,ia.drop i=x::xs:=⟨_,_,AG kJ⟩;haveI hx:ia[i]? =some x:=by
   haveI:=aR (fun l=>l[0]?) e1
   simpa using this
  refine eY (hA.get hx) fun t hvx=>?_;haveI ea:va[((i:Nat):Int).toNat]? =some (.int x t):=by rw[Int.toNat_natCast];exact hvx
  wp_walk using nM hl,nM hb
  refine aa ea ?_
  by_cases q:i<ib.length
  ·obtain⟨y,ys,e2⟩:∃y ys,ib.drop i=y::ys:=⟨_,_,AG q⟩;haveI hy:ib[i]? =some y:=by
    haveI:=aR (fun l=>l[0]?) e2
    simpa using this
   refine eY (hB.get hy) fun u hvy=>?_;haveI eb:vb[((i:Nat):Int).toNat]? =some (.int y u):=by rw[Int.toNat_natCast];exact hvy
   refine aa eb ?_;haveI hc:((i:Int)+1)=((i+1:Nat):Int):=by push_cast;rfl
   haveI d1:ia.drop (i+1)=xs:=by(refine ez tM (aa e1 ?_));rfl
   haveI d2:ib.drop (i+1)=ys:=by(refine ez tM (aa e2 ?_));rfl
   refine af (Fz ?_)
   by_cases exy:x=y
   ·haveI:(x==y)=true:=by simp[exy]
    refine aa this ?_
    wp_walk
    refine aa hc ⟨kj PySem.MeetsSeq3.plain_eq_loop _,oA PySem.MeetsSeq3.entry_eq_loop ?_⟩;refine aa (nP PySem.MeetsSeq3.plain_eq_loop _) (ih (i+1) (aR Nat.pred hk) kJ q R hp g d tk os hl hb fun um=>?_);haveI h:=hR um;rw[e1,e2,CI exy]at h
    (refine aa d1 (aa d2 ?_))
    exact h
   ·haveI:(x==y)=false:=by simp[exy]
    refine aa this ?_
    wp_walk using nM hl,nM hb
    (refine aa ea (aa eb ?_))
    refine af (m:=richCompare .Lt (.int x t) (.int y u)) ?_;haveI h:=hR tk;rw[e1,e2]at h;haveI h':R (.ok (.ret (.bool (decide (x<y))))) ⟨hp,g,d,tk,os⟩:=by rw[uU exy]at h;exact h
    exact lt_int (Q:=fun v s'=>wpAny (model prog w) A.in1 (ret v) _ _ s') (aE h')
  ·haveI eb:vb[((i:Nat):Int).toNat]? =none:=by rw[Int.toNat_natCast];simp[hB.size];exact Nat.le_of_not_lt q
   refine aa eb ?_
   wp_walk using nM hl,nM hb
   haveI:cL (ia.drop i) (ib.drop i)=decide (va.size<vb.size):=by
    (refine aa e1 (aa (C1 (Nat.le_of_not_lt q)) ?_);refine aa hA.size (aa hB.size ?_))
    exact(bP fun z=>q (Nat.lt_trans kJ z)).symm
   haveI h:=hR tk;rw[this]at h;exact h
theorem Cq(hA:oS va ia)(hB:oS vb ib){hp:Heap}{g:Array oX}{d:Drawn}{tk:Nat}{os:AD}
  (hl:hp.get? a=some ⟨.type "list",da,.seq va na,sa⟩) (hb:hp.get? b=some ⟨.type "list",db,.seq vb nb,sb⟩) {Q:Value→aB→Prop} (hR:∀tk,Q (.bool (cL ia ib)) ⟨hp,g,d,tk,os⟩):
  wpAny (model prog w) A (call (.builtin "list.__lt__") [.ref a,.ref b]) Q E ⟨hp,g,d,tk,os⟩:=by
 refine kq ?_;refine wH PySem.F.slot_list_lt.plain PySem.F.entry_list_lt (PySem.F.slot_list_lt.check _ _ _ _ _ _ _ _ ⟨_,hl,rfl⟩ (PySem.F.args_list_lt_2 _ _) ?_);haveI f3:=AutoSeq1.sub_list_list
 wp_walk using nM hl,nM hb
 refine⟨kj PySem.MeetsSeq3.plain_eq_loop _,oA PySem.MeetsSeq3.entry_eq_loop ?_⟩;exact aa (nP PySem.MeetsSeq3.plain_eq_loop _) (Cp (prog:=prog) (w:=w) (A:=A) (na:=na) (nb:=nb) hA hB ia.length 0 rfl (Nat.zero_le _) (Nat.zero_le _) (fun r s'=>match r with
   |.ok (.ret v)=>Q v s'
   |.ok _=>False
   |.error e=>E e s') hp g d tk os hl hb hR)
theorem Cr(hu:A.units<cLine)(hA:oS va ia)(hB:oS vb ib){hp:Heap}{g:Array oX}{d:Drawn}{tk:Nat}{os:AD}
  (hl:hp.get? a=some ⟨.type "list",da,.seq va na,sa⟩) (hb:hp.get? b=some ⟨.type "list",db,.seq vb nb,sb⟩) {Q:Bool→aB→Prop} (hR:∀tk,Q (cL ia ib) ⟨hp,g,d,tk,os⟩):
  wpAny (model prog w) A (keyLt' oneType' (.ref a) (.ref b)) Q E ⟨hp,g,d,tk,os⟩:=by
 rw[keyLt'_oneType,oneLt'_eq];dsimp only[if_true];refine af (wpAny_cRoomFor hu ?_);refine af (wpAny_callSpecialIfBound?_slot ⟨_,hl,rfl⟩ PySem.F.slot_list_lt (Cq hA hB hl hb fun um=>?_));exact s7 (hR um)
end
section
variable{C:Cx}{A:aG}{ρ:List ah}{H:Hp}{s:aB}{E:Value→aB→Prop}
def xE{α:Type}(lt:α→α→Bool)(rs:List α)(d:α)(p:Array Nat):Prop:=gi rs.length p∧p.toList.map (fun i=>rs.getD i d)=cJ lt rs
theorem Ip(h:rs.length<2):xE lt rs d (AR (kO rs.length)):=by
 match rs,h with
 |[],_=>exact⟨⟨by simp⟩,rfl⟩
 |[x],_=>exact⟨⟨by simp⟩,rfl⟩
theorem range_items:(kO vs.length).map (fun i=>vs.getD i Value.none)=vs:=by
 apply Ou
 ·simp
 ·intro i h1 h2;simp[h2]
theorem BF(h:xE lt rs d p)(hv:bh (VR ρ) (rs.map f) vs):bh (VR ρ) ((cJ lt rs).map f) (p.toList.map fun i=>vs.getD i Value.none):=by
 (refine ez h.2 (aa iM ?_))
 haveI key:∀l:List Nat,(∀i∈l,i<rs.length)→bh (VR ρ) (l.map (f ∘fun i=>rs.getD i d)) (l.map fun i=>vs.getD i Value.none):=by
  intro l
  induction l with
  |nil=>intro _;exact .nil
  |cons i l ih=>
   intro hl;haveI hi:=hl i (.head _);refine .cons ?_ (ih fun j hj=>hl j (.tail _ hj));refine bE (hv.get (i:=i) (a:=f rs[i]) (by simp[hi])) fun b hb hr=>?_;haveI e1:vs.getD i Value.none=b:=by(refine aa AF ?_;refine aa hb ?_);rfl
   haveI e2:rs.getD i d=rs[i]:=by simp[hi]
   show VR ρ (f (rs.getD i d)) (vs.getD i Value.none)
   (refine aa e1 (aa e2 ?_));exact hr
 exact key _ fun i hi=>F6.mp (h.1.perm.mem_iff.mp hi)
theorem Ly{vs:List Value}{n0:Nat}{news:Led}{Q:Value→aB→Prop}(F:Fr g L s.heap m)(N:dR g L s.heap ((D,listOf vs.toArray n0)::news))(hD:∀p∈news,p.1≠D)(hl:vs.length<2)
  (hQ:∀oj c,Fr g L oj m→dR g L oj ((D,listOf vs.toArray c)::news)→Q .none {s with heap:=oj}):wpAny (model prog w) A (call (.builtin "list.sort") [.ref D]) Q E s:=by
 haveI nD:=N _ (.head _);have ho:s.heap.get? D=some (seqObj "list" vs.toArray n0):=nD.1;refine oz slot_list_sort ⟨_,ho,rfl⟩ entry_list_sort ?_ (args_list_sort _);haveI ha:D<s.heap.objs.size:=Heap.lt_size ho;rw[list_sort_plain];refine af (AX ho rfl ?_);refine af (Gu ho rfl ?_ (by(refine aa wj (aa tE ?_));lia) (Nat.zero_le _));obtain⟨e1,ho1⟩:∃e1,(s.heap.update D (bK fun _=>(#[]:Array Value))).get? D=some (seqObj "list" #[] e1):=⟨_,get?_update_seq ho fun _=> #[]⟩;haveI s1:=Heap.SameBut.update s.heap D (bK fun _=>(#[]:Array Value));refine af (seqEpoch_at ho1 rfl ?_);refine af (wpAny_newTuple ?_ (by show vs.length≤_;refine aa tE ?_;lia));refine af (wJ ?_ (Nat.zero_le _));refine dB ?_;have Nj:∀b x,(s.heap.update D (bK fun _=>(#[]:Array Value))).get? b=some x→(((s.heap.update D (bK fun _=>(#[]:Array Value))).push (seqObj "tuple" vs.toArray 0)).push (seqObj "list" #[] 0)).get? b=some x:=fun b x e=>Heap.get?_push_of_some _ (Heap.get?_push_of_some _ e);haveI ho6:=Nj _ _ ho1;show wpAny (model prog w) A.in1 _ _ E {s with heap:=((s.heap.update D (bK fun _=>(#[]:Array Value))).push (seqObj "tuple" vs.toArray 0)).push (seqObj "list" #[] 0)};dsimp only;haveI h2:vs.toArray.size<2:=by simpa using hl
 (refine aa (aF h2) (aa (aF h2) ?_))
 refine af (aE ?_);rw[StateT.run_pure];refine af (aE ?_);dsimp only;haveI adB:(arrOf (SortSt.mk' general' (vs.toArray.zip vs.toArray) #[] 7 none)).map (·.2)=vs.toArray:=by
  show(vs.toArray.zip vs.toArray).map (·.2)=vs.toArray;apply Array.ext<;>simp
 refine aa adB (af (seqEpoch_at ho6 rfl ?_));refine af (Gu ho6 rfl ?_ (Nat.zero_le _) (by(refine aa wj (aa tE ?_));lia));simp only[bne_self_eq_false,jT,if_false];haveI s2:=Heap.SameBut.update (((s.heap.update D (bK fun _=>(#[]:Array Value))).push (seqObj "tuple" vs.toArray 0)).push (seqObj "list" #[] 0)) D (bK fun _=>vs.toArray);obtain⟨c2,hc2⟩:∃c2,((((s.heap.update D (bK fun _=>(#[]:Array Value))).push (seqObj "tuple" vs.toArray 0)).push (seqObj "list" #[] 0)).update D (bK fun _=>vs.toArray)).get? D=some (seqObj "list" vs.toArray c2):=⟨_,get?_update_seq ho6 fun _=>vs.toArray⟩;haveI F1:=kas_fr (kas_fr F s1 nD.2.1 nD.2.2|>.keeps Nj) s2 nD.2.1 nD.2.2;haveI N1:dR g L s.heap news:=fun p hp=>N p (.tail _ hp);haveI N2:dR g L _ news:=kas_news (fun p hp=>⟨Nj _ _ ((kas_news N1 s1 hD) p hp).1,(N1 p hp).2⟩) s2 hD;refine aE ⟨_,rfl,hQ _ c2 F1 fun p hp=>?_⟩;rcases bw.mp hp with rfl|hp
 ·exact⟨hc2,nD.2⟩
 ·exact N2 p hp
theorem qL{d:α}{g:Heap}{L:ah}{m:Str→Option Value}{D:ah}{vs:List Value}{n0:Nat}{news:Led}{Q:Value→aB→Prop}(F:Fr g L s.heap m)(N:dR g L s.heap ((D,listOf vs.toArray n0)::news))(hD:∀p∈news,p.1≠D)(Cy:vs.length<64)(hlen:rs.length=vs.length)
  (hk:∀e1 h',Fr g L h' m→dR g L h' ((D,seqObj "list" #[] e1)::news)→∃κ,(∀(Q:SortKind→aB→Prop) E,2≤vs.length→Q κ {s with heap:=h'}→wpAny (model prog w) A.in1 (keyKind' vs.toArray) Q E {s with heap:=h'})∧
   ∀i j,i<rs.length→j<rs.length→∀(K:Bool→aB→Prop) tk,(∀um,K (lt (rs.getD i d) (rs.getD j d)) {s with heap:=h',toks:=um})→kas_ask prog w A.in1 κ vs i j K {s with heap:=h',toks:=tk})
  (tr:∀a∈rs,∀b∈rs,∀c∈rs,lt a b=true→lt b c=true→lt a c=true) (as:∀a∈rs,∀b∈rs,lt a b=true→lt b a=false) (Af:rs.Pairwise (fun a b=>lt a b=true∨lt b a=true))
  (hQ:∀oj c tk p,xE lt rs d p→Fr g L oj m→dR g L oj ((D,listOf (p.toList.map fun i=>vs.getD i Value.none).toArray c)::news)→Q .none {s with heap:=oj,toks:=tk}):
  wpAny (model prog w) A (call (.builtin "list.sort") [.ref D]) Q E s:=by
 by_cases h2:2≤vs.length
 ·refine kat_lsort (vs:=vs) (its:=vs.toArray) F N (.head hD) (by simp) h2 Cy fun e1 h' F' N'=>?_;refine bE (hk e1 h' F' N') fun κ k1 k2=>?_;refine k1 _ _ h2 ?_;have o:vZ rs.length (fun i j=>lt (rs.getD i d) (rs.getD j d)):=by
   have mem:∀i,i<rs.length→rs.getD i d∈rs:=fun i hi=>by simp[hi]
   haveI tt:∀i j,i<rs.length→j<rs.length→i<j→lt (rs.getD i d) (rs.getD j d)=true∨lt (rs.getD j d) (rs.getD i d)=true:=fun i j hi hj sH=>by
    haveI:=Oa.mp Af i j hi hj sH
    simpa [hi,hj] using this
   refine⟨fun i j k hi hj hk=>tr _ (mem i hi) _ (mem j hj) _ (mem k hk),fun i j hi hj sH h=>?_,fun i j hi hj=>as _ (mem i hi) _ (mem j hj)⟩;rcases Nat.lt_or_gt_of_ne sH with q|q
   ·rcases tt i j hi hj q with e|e
    ·rw[h]at e;cases e
    ·exact e
   ·rcases tt j i hj hi q with e|e
    ·exact e
    ·rw[h]at e;cases e
  refine kZ (U1 o (by lia)) fun p ev hp ha=>?_;refine ez hlen (ZF (s:={s with heap:=h'}) (fun i j hi hj K tk hK=>k2 i j hi hj K tk hK) ev s.toks _ fun um=>?_);refine KasFin.intro (g:=fun o'=>(D,o')::news) F' N' (.head hD) fun oj c JP CG=>?_;exact hQ oj c um p ⟨hp,Ej hp ha tr as Af⟩ JP CG
 ·refine Ly F N hD (by lia) fun oj c JP CG=>?_;haveI:=hQ oj c s.toks (AR (kO rs.length)) (Ip (by lia)) JP (by
   haveI e:((AR (kO rs.length)).toList.map fun i=>vs.getD i Value.none)=vs:=by
    exact aa hlen range_items
   exact aa e CG)
  exact this
end
theorem CK.acg:∀{fs:List (ah×(Str→Option Value))},CK g L h N fs→∃NF:Led,dR g L h NF∧(∀(h':Heap),dR g L h' NF→∀p∈fs,h'.Ns p.1 p.2)∧(∀p∈fs,∃q∈NF,q.1=p.1)∧∀q∈NF,q.1∉N.map (·.1):=by
 intro rv
 induction rv with
 |nil=>
  intro _;exact⟨[],fun _ h=>(nx h),fun _ _ _ h=>(nx h),fun _ h=>(nx h),fun _ h=>(nx h)⟩
 |cons p fs ih=>
  intro x;refine JZ (ih fun q hq=>x q (.tail _ hq)) fun NF h1 h2 h3 h4=>?_;obtain⟨⟨o,es,ep,ho,r⟩,y2,y3,y4⟩:=x p (.head _);refine⟨(p.1,o)::NF,fun q hq=>?_,fun h' w q hq=>?_,fun q hq=>?_,fun q hq=>?_⟩
  ·rcases bw.mp hq with rfl|hq
   ·exact⟨ho,y2,y4⟩
   ·exact h1 q hq
  ·rcases bw.mp hq with rfl|hq
   ·exact⟨o,es,ep,(w _ (.head _)).1,r⟩
   ·exact h2 h' (fun z hz=>w z (.tail _ hz)) q hq
  ·rcases bw.mp hq with rfl|hq
   ·exact⟨_,.head _,rfl⟩
   ·refine bE (h3 q hq) fun z hz e=>?_;exact⟨z,.tail _ hz,e⟩
  ·rcases bw.mp hq with rfl|hq
   ·exact y3
   ·exact h4 q hq
section
variable{C:Cx}{A:aG}{ρ:List ah}{H:Hp}{s:aB}
theorem bf.Hu(n:bf C ρ H s):∃news:Led,Fr C.g C.L s.heap C.m.loc∧dR C.g C.L s.heap news∧(∀(l:Nat)(a:ah)(ob:Obj),ρ[l]? =some a→s.heap.get? a=some ob→(a,ob)∈news)∧(∀q∈news,q.1<s.heap.objs.size)∧
  ∀(oj:Heap) D o' jJ tk,Fr C.g C.L oj C.m.loc→dR C.g C.L oj ((D,jJ)::news)→(∀q∈news,q.1<D)→421<D→OR C.w ρ o' jJ→bf C (ρ++[D]) (H++[o']) {s with heap:=oj,toks:=tk}:=by
 obtain⟨N,S,D,b⟩:=n;refine JZ (S.fs.acg) fun NF f1 f2 f3 f4=>?_;refine⟨N++NF,S.fr,fun p hp=>(dc.mp hp).elim (S.nw p) (f1 p),fun l a ob hl IG=>?_,fun p hp=>(dc.mp hp).elim (fun h=>Heap.lt_size (S.nw p h).1) (fun h=>Heap.lt_size (f1 p h).1),fun oj Da o' jJ tk JP CG kJ MS hR=>?_⟩
 ·refine eY (D.lt hl) fun o ho=>?_;refine jZ (D.ob l o ho) fun a' jJ e1 e2 _=>?_;rw[hl]at e1;cases e1;have:=S.get e2;rw[IG]at this;cases this;exact dD _ e2
 ·haveI nD:Da∉N.map (·.1):=fun hm=>by
   refine bE (bX.mp hm) fun q hq e=>?_;exact absurd (e▸kJ q (dD _ hq)) (Nat.lt_irrefl _)
  refine⟨(Da,jJ)::N,⟨JP,fun p hp=>?_,by rw[gC,dO];exact⟨nD,S.nd⟩,S.big,rT MS S.low,fun p hp=>?_⟩,D.push hR nD,b⟩
  ·rcases bw.mp hp with rfl|hp
   ·exact CG _ (.head _)
   ·exact CG _ (.tail _ (dD _ hp))
  ·refine vU (S.fs p hp) fun z1 z2 z3 z4=>?_;refine⟨f2 _ (fun q hq=>CG q (.tail _ (cU _ hq))) p hp,z2,?_,z4⟩;rw[gC,bw]
   rintro (q|q)
   ·refine bE (f3 p hp) fun r hr hre=>?_;haveI:=kJ r (cU _ hr);rw[hre,q]at this;exact Nat.lt_irrefl _ this
   ·exact z3 q
theorem bf.aaT(n:bf C ρ H s)(ha:ρ[l]? =some a):∃(ob:Obj)(news:Led),s.heap.get? a=some ob∧Fr C.g C.L s.heap C.m.loc∧dR C.g C.L s.heap ((a,ob)::news)∧(∀p∈news,p.1≠a)∧
  (∀(l':Nat)(a':ah)(jJ:Obj),ρ[l']? =some a'→a'≠a→s.heap.get? a'=some jJ→(a',jJ)∈news)∧
  ∀(oj:Heap) o' jJ tk,Fr C.g C.L oj C.m.loc→dR C.g C.L oj ((a,jJ)::news)→OR C.w ρ o' jJ→bf C ρ (H.set l o') {s with heap:=oj,toks:=tk}:=by
 obtain⟨N,S,D,b⟩:=n;refine JZ (S.fs.acg) fun NF f1 f2 f3 f4=>?_;refine eY (D.lt ha) fun o ho=>?_;refine jZ (D.ob l o ho) fun a' ob e1 e2 _=>?_;rw[ha]at e1;cases e1;refine⟨ob,N.filter (fun p=>decide (p.1≠a))++NF,S.get e2,S.fr,fun p hp=>?_,fun p hp=>?_,fun l' a' jJ SG lU adC=>?_,fun oj o' jJ tk JP CG hR=>?_⟩
 ·rcases bw.mp hp with rfl|hp
  ·exact S.nw _ e2
  ·rcases dc.mp hp with hp|hp
   ·exact S.nw p (dG.mp hp).1
   ·exact f1 p hp
 ·rcases dc.mp hp with hp|hp
  ·simpa using (dG.mp hp).2
  ·exact fun e=>f4 p hp (e▸dF (f:=je) e2)
 ·refine eY (D.lt SG) fun n7 aaU=>?_;refine jZ (D.ob l' n7 aaU) fun qu aew z1 z2 _=>?_;rw[SG]at z1;cases z1;haveI:=S.get z2;rw[adC]at this;cases this;exact dD _ (dG.mpr ⟨z2,bN lU⟩)
 ·haveI in2:∀p∈putN a jJ N,oj.get? p.1=some p.2∧p.1≠C.L∧C.g.get? p.1=none:=fun p hp=>by
   obtain⟨b,x⟩:=p;rcases iH hp with⟨rfl,rfl⟩|⟨hb,hp⟩
   ·exact CG _ (.head _)
   ·exact CG _ (.tail _ (dD _ (dG.mpr ⟨hp,bN hb⟩)))
  refine⟨putN a jJ N,⟨JP,in2,by rw[gP];exact S.nd,S.big,vt S.low,fun p hp=>?_⟩,D.set ha hR,b⟩;refine vU (S.fs p hp) fun z1 z2 z3 z4=>?_;exact⟨f2 _ (fun q hq=>CG q (.tail _ (cU _ hq))) p hp,z2,by rw[gP];exact z3,z4⟩
end
section
variable{C:Cx}{A:aG}{ρ:List ah}{H:Hp}{s:aB}
theorem ZG{t:Int×Int×Str}(h:OR w ρ (.tuple [.int t.1,.int t.2.1,.str t.2.2]) o):∃t1 t2 t3 k,o=⟨.type "tuple",none,.seq #[.int t.1 t1,.int t.2.1 t2,.str t.2.2 t3] k, #[]⟩:=by
 obtain⟨sm,vs,k,rfl,hv⟩:=h;obtain⟨l⟩:=vs;dsimp only at hv;cases hv with
 |cons h1 hv=>cases hv with
  |cons h2 hv=>cases hv with
   |cons h3 hv=>
    cases hv;obtain⟨t1,rfl⟩:=h1;obtain⟨t2,rfl⟩:=h2;obtain⟨t3,rfl⟩:=h3;exact⟨t1,t2,t3,k,rfl⟩
theorem U3{E:Value→aB→Prop}{K:Bool→aB→Prop}(hx:s.heap.get? x=some ⟨.type "tuple",none,.seq #[.int p.1 t1,.int p.2.1 t2,.str p.2.2 t3] n, #[]⟩)
  (hy:s.heap.get? y=some ⟨.type "tuple",none,.seq #[.int q.1 u1,.int q.2.1 u2,.str q.2.2 u3] k, #[]⟩) (h:K (ie p q) s):wpAny (model PG w) A (keyLt' (tuples' (Value.type "int" !=Value.type "tuple")) (.ref x) (.ref y)) K E s:=by
 refine kat_lt hx rfl hy rfl ?_;show KatLex PG w A _ _ K [(.int p.1 t1,.int q.1 u1),(.int p.2.1 t2,.int q.2.1 u2),(.str p.2.2 t3,.str q.2.2 u3)] 0 s;delta ie at h;refine kat_cons (Fz (kat_go (fun e1=>kat_yes ?_) fun e1=>kat_no ?_))
 ·rw[aF (by simpa using e1)]at h;refine kat_cons (Fz (kat_go (fun e2=>kat_yes ?_) fun e2=>kat_no ?_))
  ·rw[aF (by simpa using e2)]at h;refine kat_cons (wpAny_eqBool_str (kat_go (fun e3=>kat_yes ?_) fun e3=>kat_no ?_))
   ·refine kat_nil ?_;haveI e3':p.2.2=q.2.2:=cP e3;rw[e3']at h;haveI:strLt q.2.2 q.2.2=false:=by
     delta strLt;exact bP (List.lt_irrefl _)
    rw[this]at h;exact h
   ·exact kat_one _ _ (lt_str h)
  ·rw[au (by simpa using e2)]at h;exact kat_one _ _ (lt_int h)
 ·rw[au (by simpa using e1)]at h;exact oneLt_int h
theorem U4{ts:List ((Int×Int×Str)×Nat)}(ha:ρ[l]? =some a)(hl:H[l]? =some (.list (ts.map fun t=>AV.loc t.2)))(MH:∀t∈ts,H[t.2]? =some (.tuple [.int t.1.1,.int t.1.2.1,.str t.1.2.2]))(qQ:(ts.map (·.1)).Nodup)(Cy:ts.length<64)(sm:small (.list ((cJ (fun a b=>ie a.1 b.1) ts).map fun t=>AV.loc t.2))):
  Sm C A ρ VR H .none (H.set l (.list ((cJ (fun a b=>ie a.1 b.1) ts).map fun t=>AV.loc t.2))) (call (.builtin "list.sort") [.ref a]):=fun s n Q E hR=>by
 obtain⟨ob,ho,sm0,vs,k,rfl,hv⟩:=n.at hl ha;refine acX (n.aaT ha) fun jJ news EG F N lU Xm fin=>?_;rw[ho]at EG;cases EG;have EK:ts.length=vs.toList.length:=by refine ez hv.length ?_;simp
 have adD:∀t∈ts,∀x,ρ[t.2]? =some x→x≠a:=fun t ht x hx e=>by
  subst e;obtain⟨N0,S0,D0,_⟩:=n;have:=D0.inj hx ha;haveI h1:=MH t ht;rw[this,hl]at h1;cases h1
 have items:∀t∈ts,∃x t1 t2 t3 k,ρ[t.2]? =some x∧(x,(⟨.type "tuple",none,.seq #[.int t.1.1 t1,.int t.1.2.1 t2,.str t.1.2.2 t3] k, #[]⟩:Obj))∈news:=fun t ht=>by
  refine eY (n.addr (MH t ht)) fun x hx=>?_;refine bE (n.at (MH t ht) hx) fun ob IG hor=>?_;refine abP (ZG (t:=t.1) hor) fun t1 t2 t3 k e_4=>?_;subst e_4;exact⟨x,t1,t2,t3,k,hx,Xm _ _ _ hx (adD t ht x hx) IG⟩
 have SN:∀i,i<ts.length→∃x,vs.toList.getD i Value.none=.ref x∧ρ[(ts.getD i ((0,0,av ""),0)).2]? =some x:=fun i hi=>by
  obtain⟨b,hb,x,hx,rfl⟩:=hv.get (i:=i) (a:=AV.loc ts[i].2) (by simp[hi]);exact⟨x,by(refine aa AF ?_;refine aa hb ?_);rfl,by simpa [hi] using hx⟩
 refine qL (vs:=vs.toList) (n0:=k) (d:=((0,0,av ""),0)) (lt:=fun a b=>ie a.1 b.1) (rs:=ts) F (by exact aa Array.toArray_toList N) lU (by exact ez EK Cy) EK (fun e1 h' F' N'=>⟨tuples' (Value.type "int" !=Value.type "tuple"),fun Q E h2 hq=>?_,fun i j hi hj K tk hK=>?_⟩)
  (fun a _ b _ c _=>Ck) (fun a _ b _=>Cj) (sr qQ fun a b h=>Im h) fun oj c tk p hp JP CG=>?_
 ·haveI key:∀(l:List ((Int×Int×Str)×Nat))(us:List Value),(∀t∈l,t∈ts)→bh (VR ρ) (l.map (fun t=>AV.loc t.2)) us→∃fs,KatTups h' us fs∧fs.length=us.length∧∀v∈fs,∃i t,v=.int i t:=by
   intro l
   induction l with
   |nil=>intro us _ h;cases h;exact⟨[],.nil,rfl,fun _ h=>(nx h)⟩
   |cons t l ih=>
    intro us hm h;cases h with
    |cons h1 h2=>
     refine kZ (ih _ (fun t ht=>hm t (.tail _ ht)) h2) fun fs f1 f2 f3=>?_;refine XM (items t (hm t (.head _))) fun x t1 t2 t3 k hx adE=>?_;refine bE (h1) fun x' SH fF=>?_;subst fF;rw[hx]at SH;cases SH;refine⟨.int t.1.1 t1::fs,.cons (N' _ (.tail _ adE)).1 rfl rfl rfl f1,by simp[f2],fun v hv=>?_⟩;rcases bw.mp hv with rfl|hv
     ·exact⟨_,_,rfl⟩
     ·exact f3 v hv
  refine kZ (key ts vs.toList (fun _ h=>h) hv) fun fs f1 f2 f3=>?_;refine kat_kind (T:=.type "int") f1 (by lia) (fun v hv=>?_) (by decide) hq;refine XJ (f3 v hv) fun i t fF=>?_;subst fF;exact kQ rfl
 ·refine bE (SN i hi) fun x ex hx=>?_;refine bE (SN j hj) fun y ey hy=>?_;haveI mi:ts.getD i ((0,0,av ""),0)∈ts:=by simp[hi]
  have mj:ts.getD j ((0,0,av ""),0)∈ts:=by simp[hj]
  refine XM (items _ mi) fun x' a1 a2 a3 k1 SH m1=>?_;refine XM (items _ mj) fun y' b1 b2 b3 k2 Xl m2=>?_;rw[hx]at SH;cases SH;rw[hy]at Xl;cases Xl;unfold kas_ask
  (refine aa ex (aa ey ?_))
  exact U3 (s:={s with heap:=h',toks:=tk}) (N' _ (.tail _ m1)).1 (N' _ (.tail _ m2)).1 (hK tk)
 ·refine hR ρ _ _ (.of dz rfl rfl) (fin oj (.list ((cJ (fun a b=>ie a.1 b.1) ts).map fun t=>AV.loc t.2)) _ tk JP CG ⟨sm,_,c,rfl,?_⟩) rfl;haveI:=BF (f:=fun t=>AV.loc t.2) hp hv
  simpa using this
theorem ZH{ts:List ((Int×Int×Str)×Nat)}(hl:H[l]? =some (.list (ts.map fun t=>AV.loc t.2)))(MH:∀t∈ts,H[t.2]? =some (.tuple [.int t.1.1,.int t.1.2.1,.str t.1.2.2]))(qQ:(ts.map (·.1)).Nodup)(Cy:ts.length<64)(sm:small (.list ((cJ (fun a b=>ie a.1 b.1) ts).map fun t=>AV.loc t.2))):
  Mc n .seq l .sort [] H .none (H.set l (.list ((cJ (fun a b=>ie a.1 b.1) ts).map fun t=>AV.loc t.2))):=⟨fun K ha h=>iy.zq h (U4 ha hl MH qQ Cy sm)⟩
end
section
variable{C:Cx}{A:aG}{ρ:List ah}{H:Hp}{s:aB}
theorem uL{E:Value→aB→Prop}{vs:List Value}(hl:s.heap.IsList l vs.toArray)(Cy:vs.length<64)
  (h:∀D h',(∀b o,s.heap.get? b=some o→h'.get? b=some o)→s.heap.objs.size≤D→h'.get? D=some (listOf vs.toArray 0)→wpAny (model prog w) A.in1 (call (.builtin "list.sort") [.ref D]) (fun _ s'=>Q (.ref D) s') E {s with heap:=h'}):
  wpAny (model prog w) A (call (.builtin "sorted") [.ref l]) Q E s:=by
 refine Calls.call_function_entry kind_sorted plain_sorted entry_sorted (args_sorted1 _) ?_;delta Builtin.«sorted»;refine af (m:=checkCount "sorted" 1 1 _) (aE ?_);refine af (collect_list hl ?_ (by refine aa tE ?_;lia));refine af (wJ ?_ (by refine aa tE ?_;lia));haveI hsz:((s.heap.push (seqObj "list" #[] 0)).update s.heap.objs.size (bK (·++vs.toArray))).objs.size=s.heap.objs.size+1:=by
  rw[Heap.size_update,size_push']
 haveI hoL:(((s.heap.push (seqObj "list" #[] 0)).update s.heap.objs.size (bK (·++vs.toArray))).push (seqObj "list" vs.toArray 0)).get? (s.heap.objs.size+1)=some (seqObj "list" vs.toArray 0):=by
  exact ez hsz (Heap.get?_push_size _ rfl)
 haveI keep:∀b o,s.heap.get? b=some o→(((s.heap.push (seqObj "list" #[] 0)).update s.heap.objs.size (bK (·++vs.toArray))).push (seqObj "list" vs.toArray 0)).get? b=some o:=fun b o q=>by
  haveI kJ:b<s.heap.objs.size:=Heap.lt_size q;refine Heap.get?_push_of_some _ ?_;refine aa (Heap.get?_update_other _ _ (Nat.ne_of_gt kJ)) ?_;exact Heap.get?_push_of_some _ q
 haveI key:=h (s.heap.objs.size+1) _ keep (Nat.le_succ _) hoL;show wpAny _ _ _ _ _ {s with heap:=((s.heap.push (seqObj "list" #[] 0)).update s.heap.objs.size (bK (·++vs.toArray))).push (seqObj "list" vs.toArray 0)};refine aa hsz (af (dB (eV key (fun _ s' x=>?_) fun _ _ e=>e)));exact aE ⟨_,rfl,x⟩
theorem zU{E:Value→aB→Prop}{h':Heap}{tk:Nat}(F:Fr C.g C.L h' C.m.loc)(N:dR C.g C.L h' ((D,listOf vs.toArray 0)::news))(kJ:∀q∈news,q.1<D)(MS:421<D)(qQ:ss.Nodup)(Cy:ss.length<64)
  (hv:bh (VR ρ) (ss.map AV.str) vs) (sm:small (.list ((cJ strLt ss).map AV.str)))
  (fin:∀(oj:Heap) D o' jJ tk,Fr C.g C.L oj C.m.loc→dR C.g C.L oj ((D,jJ)::news)→(∀q∈news,q.1<D)→421<D→OR C.w ρ o' jJ→bf C (ρ++[D]) (H++[o']) {s with heap:=oj,toks:=tk})
  (hQ:∀s',bf C (ρ++[D]) (H++[.list ((cJ strLt ss).map AV.str)]) s'→s'.gens=s.gens→s'.os=s.os→Q .none s'):
  wpAny (model PG C.w) A (call (.builtin "list.sort") [.ref D]) Q E {s with heap:=h',toks:=tk}:=by
 have hlen:ss.length=vs.length:=by refine ez hv.length ?_;simp
 have SN:∀i,i<ss.length→∃t,vs.getD i Value.none=.str (ss.getD i (av "")) t:=fun i hi=>by
  obtain⟨b,hb,t,rfl⟩:=hv.get (i:=i) (a:=AV.str ss[i]) (by simp[hi]);exact⟨t,by(refine aa AF ?_;refine aa hb ?_);simp[hi]⟩
 refine qL (s:={s with heap:=h',toks:=tk}) (vs:=vs) (n0:=0) (d:=av "") (lt:=strLt) (rs:=ss) F N (fun p hp=>Nat.ne_of_lt (kJ p hp)) (hlen▸Cy) hlen (fun e1 h2 F2 N2=>⟨oneType',fun Q E h2 hq=>?_,fun i j hi hj K tk hK=>?_⟩)
  (fun a _ b _ c _=>lJ) (fun a _ b _=>lM) (List.Pairwise.imp (fun h=>pK h) qQ) fun oj c tk p hp JP CG=>?_
 ·refine kas_kind (T:=.type "str") h2 (fun v EI=>?_) (by decide) (by decide) hq;obtain⟨i,hi,e⟩:=wR EI;refine eY (SN i (by lia)) fun t ht=>?_;haveI:vs.getD i Value.none=v:=by simp[hi,e]
  (refine ez this (aa ht ?_))
  exact kQ rfl
 ·refine eY (SN i hi) fun t e1=>?_;refine eY (SN j hj) fun u e2=>?_;unfold kas_ask
  (refine aa e1 (aa e2 ?_))
  exact kas_lt_str (s:={s with heap:=h2,toks:=tk}) (hK tk)
 ·refine hQ _ (fin oj D (.list ((cJ strLt ss).map AV.str)) _ tk JP CG kJ MS ⟨sm,_,c,rfl,?_⟩) rfl rfl;haveI:=BF (f:=AV.str) hp hv
  simpa using this
theorem LA{E:Value→aB→Prop}{rs:List (List Int×Nat)}{h':Heap}{tk:Nat}(hu:A.units+1<cLine)(F:Fr C.g C.L h' C.m.loc)(N:dR C.g C.L h' ((D,listOf vs.toArray 0)::news))(kJ:∀q∈news,q.1<D)(MS:421<D)(qQ:(rs.map (·.1)).Nodup)(Cy:rs.length<64)
  (n:bf C ρ H s) (MH:∀t∈rs,H[t.2]? =some (.list (t.1.map AV.int))) (Xm:∀(l':Nat)(a':ah)(jJ:Obj),ρ[l']? =some a'→s.heap.get? a'=some jJ→(a',jJ)∈news)
  (hv:bh (VR ρ) (rs.map fun t=>AV.loc t.2) vs) (sm:small (.list ((cJ (fun a b=>cL a.1 b.1) rs).map fun t=>AV.loc t.2)))
  (fin:∀(oj:Heap) D o' jJ tk,Fr C.g C.L oj C.m.loc→dR C.g C.L oj ((D,jJ)::news)→(∀q∈news,q.1<D)→421<D→OR C.w ρ o' jJ→bf C (ρ++[D]) (H++[o']) {s with heap:=oj,toks:=tk})
  (hQ:∀s',bf C (ρ++[D]) (H++[.list ((cJ (fun a b=>cL a.1 b.1) rs).map fun t=>AV.loc t.2)]) s'→s'.gens=s.gens→s'.os=s.os→Q .none s'):
  wpAny (model PG C.w) A (call (.builtin "list.sort") [.ref D]) Q E {s with heap:=h',toks:=tk}:=by
 have hlen:rs.length=vs.length:=by refine ez hv.length ?_;simp
 have SN:∀i,i<rs.length→∃x va k,vs.getD i Value.none=.ref x∧(x,(⟨.type "list",none,.seq va k, #[]⟩:Obj))∈news∧oS va (rs.getD i ([],0)).1:=fun i hi=>by
  obtain⟨b,hb,x,hx,rfl⟩:=hv.get (i:=i) (a:=AV.loc rs[i].2) (by simp[hi]);haveI hys:=MH rs[i] (F3 hi);obtain⟨ob,IG,sm',va,k,rfl,Xn⟩:=n.at hys hx;refine⟨x,va,k,by(refine aa AF ?_;refine aa hb ?_);rfl,Xm _ _ _ hx IG,?_⟩;haveI:∀(is:List Int)(us:List Value),bh (VR ρ) (is.map AV.int) us→bh (fun i v=> ∃t,v=Value.int i t) is us:=by
   intro is
   induction is with
   |nil=>intro us h;cases h;exact .nil
   |cons i is ih=>intro us h;cases h with|cons h1 h2=>exact .cons h1 (ih _ h2)
  haveI e2:(rs.getD i ([],0)).1=rs[i].1:=by simp[hi]
  exact aa e2 (this _ _ Xn)
 haveI Af:rs.Pairwise (fun a b=>cL a.1 b.1=true∨cL b.1 a.1=true):=sr qQ fun a b h=>pL h;refine qL (s:={s with heap:=h',toks:=tk}) (vs:=vs) (n0:=0) (d:=(([]:List Int),0)) (lt:=fun a b=>cL a.1 b.1) (rs:=rs) F N (fun p hp=>Nat.ne_of_lt (kJ p hp)) (hlen▸Cy) hlen (fun e1 h2 F2 N2=>⟨oneType',fun Q E h2 hq=>?_,fun i j hi hj K tk hK=>?_⟩)
  (fun a _ b _ c _=>lR) (fun a _ b _=>lO) Af fun oj c tk p hp JP CG=>?_
 ·refine kas_kind (T:=.type "list") h2 (fun v EI=>?_) (by decide) (by decide) hq;obtain⟨i,hi,e⟩:=wR EI;refine J0 (SN i (by lia)) fun x va k e1 hm _=>?_;haveI:vs.getD i Value.none=v:=by simp[hi,e]
  (refine ez this (aa e1 ?_))
  exact(ng (N2 _ (.tail _ hm)).1).andThen .now
 ·refine J0 (SN i hi) fun x va k e1 hm i1=>?_;refine J0 (SN j hj) fun y vb k' e2 hm' i2=>?_;unfold kas_ask
  (refine aa e1 (aa e2 ?_))
  exact Cr hu i1 i2 (N2 _ (.tail _ hm)).1 (N2 _ (.tail _ hm')).1 hK
 ·refine hQ _ (fin oj D (.list ((cJ (fun a b=>cL a.1 b.1) rs).map fun t=>AV.loc t.2)) _ tk JP CG kJ MS ⟨sm,_,c,rfl,?_⟩) rfl rfl;haveI:=BF (f:=fun t=>AV.loc t.2) hp hv
  simpa using this
theorem Ek{A:aG}{s:aB}{h₀:Heap}{L:ah}{m:Str→Option Value}{news:Led}{Q:Value→aB→Prop}{E:Value→aB→Prop}(K:KdlSrc PG w T r d k P OK)(hh:A.handled=none)(F:Fr h₀ L s.heap m)(N:dR h₀ L s.heap news)(ok:OK s.heap)(hk:k≤sizeLine)
  (h:∀(D:ah)(h':Heap)(tk:Nat)(vs:List Value),L<D→Fr h₀ L h' m→dR h₀ L h' ((D,listOf vs.toArray 0)::news)→(∀q∈news,q.1<D)→vs.length=k→(∀(j:Nat)(v:Value),vs[j]? =some v→P j v)→
   wpAny (model PG w) A.in1 (call (.builtin "list.sort") [.ref D]) (fun _ s'=>Q (.ref D) s') E {s with heap:=h',toks:=tk}):
  wpAny (model PG w) A (call (.builtin "sorted") [.ref r]) Q E s:=by
 refine zl kind_sorted plain_sorted entry_sorted (args_sorted1 _) ?_;unfold Builtin.«sorted»;refine af (m:=checkCount "sorted" 1 1 _) (aE ?_);refine af (kdu_collect (A:=A.in1) K hh ok hk fun iL tk acc keep its=>?_);haveI X7:=F.keeps keep;have ach:dR h₀ L iL news:=fun p hp=>⟨keep _ _ (N p hp).1,(N p hp).2⟩;haveI sz:acc.toList.length=k:=(Array.length_toList).trans its.1;refine af (wJ ?_ (by exact aa sz hk));refine af (dB (eV (h iL.objs.size _ tk acc.toList X7.ns.lt (X7.push _) (News.push X7 ach _ rfl) (fun q hq=>Heap.lt_size (ach q hq).1) sz fun j v e=>its.2 j v (by refine ez Array.getElem?_toList ?_;exact e)) (fun _ s' x=>aE ⟨_,rfl,x⟩) fun _ _ e=>e))
theorem bf.DB(n:bf C ρ H s):421<s.heap.objs.size:=let⟨_,S,_,_⟩:=n;S.size
theorem zV(F:Fr C.g C.L s.heap C.m.loc)(N:dR C.g C.L s.heap news)(k:∀b o,s.heap.get? b=some o→h'.get? b=some o)(hD:s.heap.objs.size≤D)(EG:h'.get? D=some o):dR C.g C.L h' ((D,o)::news):=fun p hp=>by
 rcases bw.mp hp with rfl|hp
 ·haveI hz:=F.ns.lt;exact⟨EG,Nat.ne_of_gt (Nat.lt_of_lt_of_le hz hD),Heap.get?_none_of_le (Nat.le_trans F.above (Nat.le_trans (Nat.le_of_lt hz) hD))⟩
 ·exact⟨k _ _ (N p hp).1,(N p hp).2⟩
section
variable{n l:Nat}{ss:List Str}{rs:List (List Int×Nat)}{kvs:List (AV×AV)}{ep:Nat}{x:AV}
theorem U5(hl:H[l]? =some (.list (ss.map AV.str)))(qQ:ss.Nodup)(Cy:ss.length<64)(sm:small (.list ((cJ strLt ss).map AV.str))):Cl n (.glob .sorted) [.loc l] H (.loc H.length) (H++[.list ((cJ strLt ss).map AV.str)]):=
 .blt rfl fun{C A ρ sF} K hv=>iy.one hv fun v hv s n Q E hR=>VR.eF hv fun a ha=>by
  obtain⟨ob,ho,sm0,vs,k,rfl,nZ⟩:=n.at hl ha;refine Tv (n.Hu) fun news F N Xm kJ fin=>?_;haveI hil:s.heap.IsList a vs.toList.toArray:=by exact aa Array.toArray_toList (di ho)
  haveI SQ:ss.length=vs.toList.length:=by refine ez nZ.length ?_;simp
  refine uL hil (by exact ez SQ Cy) fun D h' kp hD EG=>?_;refine zU (A:=A.in1) (s:=s) (tk:=s.toks) (F.keeps kp) (zV F N kp hD EG) (fun q hq=>Nat.lt_of_lt_of_le (kJ q hq) hD) (Nat.lt_of_lt_of_le n.DB hD) qQ Cy nZ sm fin fun s' n' g' o'=>?_;exact hR (ρ++[D]) s' _ ⟨fJ ..,o',Nat.le_of_eq (aR _ g'.symm)⟩ n' ⟨D,by refine ez n.length ?_;simp,rfl⟩
theorem U6(hl:H[l]? =some (.list (rs.map fun t=>AV.loc t.2)))(MH:∀t∈rs,H[t.2]? =some (.list (t.1.map AV.int)))(qQ:(rs.map (·.1)).Nodup)(Cy:rs.length<64)(sm:small (.list ((cJ (fun a b=>cL a.1 b.1) rs).map fun t=>AV.loc t.2))):
  Cl n (.glob .sorted) [.loc l] H (.loc H.length) (H++[.list ((cJ (fun a b=>cL a.1 b.1) rs).map fun t=>AV.loc t.2)]):=
 .blt rfl fun{C A ρ sF} K hv=>iy.one hv fun v hv s n Q E hR=>VR.eF hv fun a ha=>by
  obtain⟨ob,ho,sm0,vs,k,rfl,nZ⟩:=n.at hl ha;refine Tv (n.Hu) fun news F N Xm kJ fin=>?_;haveI hil:s.heap.IsList a vs.toList.toArray:=by exact aa Array.toArray_toList (di ho)
  haveI SQ:rs.length=vs.toList.length:=by refine ez nZ.length ?_;simp
  haveI u:=K.un9;refine uL hil (by exact ez SQ Cy) fun D h' kp hD EG=>?_;refine LA (A:=A.in1) (s:=s) (tk:=s.toks) (by show A.units+1+1<cLine;lia) (F.keeps kp) (zV F N kp hD EG) (fun q hq=>Nat.lt_of_lt_of_le (kJ q hq) hD) (Nat.lt_of_lt_of_le n.DB hD) qQ Cy n MH Xm nZ sm fin fun s' n' g' o'=>?_;exact hR (ρ++[D]) s' _ ⟨fJ ..,o',Nat.le_of_eq (aR _ g'.symm)⟩ n' ⟨D,by refine ez n.length ?_;simp,rfl⟩
theorem U7(hl:H[l]? =some (.dict kvs ep))(hk:kvs.map (·.1)=ss.map AV.str)(qQ:ss.Nodup)(Cy:ss.length<64)(sm:small (.list ((cJ strLt ss).map AV.str))):Cl n (.glob .sorted) [.loc l] H (.loc H.length) (H++[.list ((cJ strLt ss).map AV.str)]):=
 .blt rfl fun{C A ρ sF} K hv=>iy.one hv fun v hv s n Q E hR=>VR.eF hv fun a ha=>n.dictAt hl ha fun ps hd hp _=>by
  refine Tv (n.Hu) fun news F N Xm kJ fin=>?_;haveI hz:ps.length≤sizeLine:=by
   exact ez hp.length (Nat.le_trans (Nat.le_of_lt (n.small hl)) cA)
  refine Ek (kdl_dict (knd:=bH C.w) (kvs:=ps) (ep:=ep) (n.o7 ha)) K.hh F N hd hz fun D h' tk vs hLD F' N' l1 adF hvp=>?_;haveI aaV:bh (VR ρ) (kvs.map (·.1)) vs:=by
   haveI:=Dn (acc:=vs.toArray) hp (fun kv _ v h=>Bw h) ⟨by simpa using adF,fun j v e=>hvp j v (by simpa using e)⟩
   simpa using this
  haveI aaW:421<D:=let⟨_,S,_,_⟩:=n;Nat.lt_trans (Nat.lt_of_lt_of_le S.big S.fr.above) hLD;refine zU (A:=A.in1) (s:=s) (tk:=tk) F' N' l1 aaW qQ Cy (hk▸aaV) sm fin fun s' n' g' o'=>?_;exact hR (ρ++[D]) s' _ ⟨fJ ..,o',Nat.le_of_eq (aR _ g'.symm)⟩ n' ⟨D,by refine ez n.length ?_;simp,rfl⟩
end
end
theorem yT(m:Sem PySem.Fin):m.bind Sem.pure=m:=by
 induction m<;>simp only[Sem.bind, *]
theorem yU(m:Sem PySem.Fin):m.wrap .pure .raise id id=m:=by
 rw[←OX,yT]
section
variable{M:k7}{A:aG}{R:qz}{Y:m9}{n:Nat}{s₀:aB}{c:Code}{fs:List Frame}{s:aB}{env:Env}{K:gF→Sem PySem.Fin}{H:Value→Sem PySem.Fin}{gd:Bool→Bool}{lv:List Value→List Value}
theorem x9
  (h:wpAny M (A.over c fs) (PySem.execs pre env) (fun f s'=>match f with|.next=>Seg M A R Y n s₀ c ((PySem.execs rest env).wrap K H gd lv) fs s'|f=>Seg M A R Y n s₀ c (K f) fs s') (fun _ _=>False) s):
  Seg M A R Y n s₀ c ((PySem.execs (pre++rest) env).wrap K H gd lv) fs s:=by
 haveI key:∀(pre:List bT),(PySem.execs (pre++rest) env).wrap K H gd lv=(PySem.execs pre env).wrap (fun f=>match f with|.next=>(PySem.execs rest env).wrap K H gd lv|f=>K f) H gd lv:=by
  intro pre
  induction pre with
  |nil=>rfl
  |cons st pre ih=>
   rw[List.cons_append,execs_cons_wrap,execs_cons_wrap];refine OY _ _ _ (fun f=>?_) fun _=>rfl;cases f<;>first|exact ih|rfl
 rw[key];refine tH (eV h (fun f s' hf=>?_) fun _ _ x=>x.elim);cases f<;>exact hf
theorem Rn(h:wpAny M (A.over c fs) m (fun fin s'=>Seg M A R Y n s₀ c (.pure fin) fs s') (fun _ _=>False) s):Seg M A R Y n s₀ c m fs s:=by
 exact ez (yU m) (tH (eV h (fun _ _ x=>x) fun _ _ x=>x.elim))
theorem yV(target iter:aQ)(body orelse:List bT)(pos:Pos):(PySem.exec (.For target iter body orelse pos) env).wrap K H gd lv=.at pos fun _=>(PySem.eval iter env).wrap (fun x=>(do
  let x ←foldedSetIterable iter env x
  standAt iter.pos
  runOwn (.forLoop target (←PySem.holding [x] (pyIter x)) body orelse env) env:Sem gF).wrap K H gd lv) H gd lv:=by
 rw[exec_For];show Sem.at pos (fun _=>((PySem.eval iter env)>>=_).wrap K H gd lv)=_
 congr 1
 funext _;rw[Gz,A2];rfl
end
section
variable{prog:Program}{w:bz}{A:aG}{R:qz}{Y:m9}{n:Nat}{s₀:aB}{c:Code}{fs:List Frame}{s:aB}{env:Env}{K:gF→Sem PySem.Fin}{H:Value→Sem PySem.Fin}{gd:Bool→Bool}{lv:List Value→List Value}
noncomputable abbrev Nk(env:Env)(K:gF→Sem PySem.Fin)(H:Value→Sem PySem.Fin)(gd:Bool→Bool)(lv:List Value→List Value):kC→Sem PySem.Fin:=fun r=>((match r with|.ok f=>(.pure f:Sem gF)|.error e=>.raise e).onRaise fun(x:Value)=>do
    if(←field x 1)==Value.none then unsupported "frame.own-activation:exception-without-traceback"
    setFlight x env.frame).wrap K H gd lv
theorem U8{target iter:aQ}(hs:∀x,foldedSetIterable iter env x=jU x)
  (h:wpAny (model prog w) (A.over c fs) (PySem.eval iter env) (fun x s₁=>wpAny (model prog w) (A.over c fs) (pyIter x) (fun it bM=> ∀p l,Seg (model prog w) A R Y n s₀ (.forLoop target it body orelse env) ((model prog w).den (.forLoop target it body orelse env))
   (.ret (Nk env K H gd lv) none (gd false) l c p []::fs) bM) (fun _ _=>False) s₁) (fun _ _=>False) s):
  Seg (model prog w) A R Y n s₀ c ((PySem.exec (.For target iter body orelse pos) env).wrap K H gd lv) fs s:=by
 rw[yV];refine seg_at (tH (eV h (fun x s₁ iL=>?_) fun _ _ x=>x.elim));refine aa (hs x) ?_;show Seg (model prog w) A R Y n s₀ c (Sem.at iter.pos fun _=>((PySem.holding [x] (pyIter x))>>=fun it=>runOwn (.forLoop target it body orelse env) env).wrap K H gd lv) fs s₁;refine seg_at ?_;rw[Gz,A2];refine tH (dB (eV iL (fun it bM qV=>?_) fun _ _ x=>x.elim));exact seg_call fun p=>qV p _
theorem su
  (h:wpAny (model prog w) (A.over (.forLoop target it body orelse env) fs) (pyNext it) (fun r s₁=>match r with
   |none=>Seg (model prog w) A R Y n s₀ (.block orelse env) ((model prog w).den (.block orelse env)) fs s₁
   |some v=>wpAny (model prog w) (A.over (.forLoop target it body orelse env) fs) (letOwnedTupleGo target it v) (fun _ zx=>
     wpAny (model prog w) (A.over (.forLoop target it body orelse env) fs) (assign target env v) (fun _ bM=>wpAny (model prog w) (A.over (.forLoop target it body orelse env) fs) (PySem.execs body env) (fun f fH=>match f with
      |.next|.cont=>Seg (model prog w) A R Y n s₀ (.forLoop target it body orelse env) ((model prog w).den (.forLoop target it body orelse env)) fs fH
      |.brk=>Seg (model prog w) A R Y n s₀ (.forLoop target it body orelse env) (.pure (.done .next)) fs fH
      |.ret v=>Seg (model prog w) A R Y n s₀ (.forLoop target it body orelse env) (.pure (.done (.ret v))) fs fH) (fun _ _=>False) bM) (fun _ _=>False) zx) (fun _ _=>False) s₁) (fun _ _=>False) s):
  Seg (model prog w) A R Y n s₀ (.forLoop target it body orelse env) ((model prog w).den (.forLoop target it body orelse env)) fs s:=by
 show Seg (model prog w) A R Y n s₀ _ ((forTurn target it body orelse env).onRaise (fun x=>do noteFrame x env;theTreesLotGoes x)) fs s
 refine Rn (wpAny_onRaise ?_);simp only[forTurn];refine af (gz (af (wpAny_onRaise (eV h (fun r s₁ iL=>?_) fun _ _ h'=>h'.elim))));cases r with
 |none=>exact aE (AA rfl iL)
 |some v=>
  refine af (eV iL (fun _ zx aaX=>?_) fun _ _ h'=>h'.elim);refine af (eV aaX (fun _ bM qV=>af (eV qV (fun f fH qv=>?_) fun _ _ h'=>h'.elim)) fun _ _ h'=>h'.elim);cases f with
  |next=>exact aE (AA rfl qv)
  |cont=>exact aE (AA rfl qv)
  |brk=>exact aE qv
  |ret v=>exact aE qv
theorem LC
  (h:Seg (model prog w) A R Y n s₀ (.block stmts env) ((PySem.execs stmts env).wrap (fun f=>.pure (.done f)) (fun e=>(do noteFrame e env;theTreesLotGoes e:Sem Unit).wrap (fun _=>.raise e) .raise id id) id id) fs s):
  Seg (model prog w) A R Y n s₀ (.block stmts env) ((model prog w).den (.block stmts env)) fs s:=by
 show Seg (model prog w) A R Y n s₀ _ (((PySem.execs stmts env).onRaise (fun x=>do noteFrame x env;theTreesLotGoes x))>>=fun f=>jU (Fin.done f)) fs s
 rw[Sem.onRaise_eq_wrap,Gz,A2];rw[OY (PySem.execs stmts env) _ _ (K':=fun f=>.pure (.done f)) (H':=fun e=>(do noteFrame e env;theTreesLotGoes e:Sem Unit).wrap (fun _=>.raise e) .raise id id) (fun f=>by rfl)
  (fun e=>by rw[OX,A2];rfl)]
 exact h
theorem uM{E:Value→aB→Prop}{P:Nat→aB→aB→Prop}{Q:Option Value→aB→Prop}(hh:A.handled=none)
  (hl:s.heap.NoLimit) (zC:A.depth<recursionLimit)
  (hg:s.heap.IsGen a g) (Tc:s.gens[g]? =some gs)
  (Xo:gs.Goes (model prog w) A.in1 (fun n s₀ r s₁=>r=.ok (.ret .none)∧P n s₀ s₁) Y n (.send .none) (s.setGen g .running))
  (hY:∀v s₁ uo,uo.bare=true→Y (n -1) (s.setGen g .running) v s₁ (fun r' j8=>match n with
    |0=>False
    |m+1=>uo.Goes (model prog w) A.in1 (fun n s₀ r s₁=>r=.ok (.ret .none)∧P n s₀ s₁) Y m r' j8)→Q (some v) (s₁.setGen g uo))
  (hP:∀s₁,P n (s.setGen g .running) s₁→∀h',(∀b o,s₁.heap.get? b=some o→h'.get? b=some o)→Q none {s₁.setGen g .finished with heap:=h'}):
  wpAny (model prog w) A (pyNext (.ref a)) Q E s:=by
 delta pyNext;refine af (Aw (CY (name:=av "__next__") hg.typeIs wK
  (oz wK hg.typeIs entry_gen_next ?_ (args_gen_next _))))
 show wpAny _ A.in1 (Builtin.Generator.genWake (.ref a) (.send .none)) _ _ s;delta Builtin.Generator.genWake;refine af (dB (wpAny_genNumber hg (af (wpAny_genState Tc ?_))));cases gs with
 |running=>exact Xo.elim
 |finished=>exact Xo.elim
 |_=>
  refine af (wpAny_roomToWake hl zC ?_);show wpAny _ A.in1 (.resume g (.send .none) [] _) _ _ s;refine wpAny_resumeQ Tc Xo (fun x s₁ hx=>?_) (fun v s₁ uo hb hv=>?_)
  ·refine iK (hx) fun MC hp=>?_;subst MC;show wpAny _ A.in1 (newExc (.type "StopIteration") []>>=_) _ _ _;refine af ?_;dsimp only[newExc,newTuple];refine af (nK ?_ (by size_fits));refine af (m:=firstArgMember _ _) (mD (a:=Value.none) (by first|rfl|(dsimp only[firstArgMember];rfl)) ?_);refine nK ?_ (by size_fits);dsimp only[raiseNew];refine af (af (FI ?_));refine aa (show A.in1.handled=none from hh) (FO ?_);refine af (wI (T:= "StopIteration") (b:=true) ⟨_,Heap.get?_push_size _ rfl,rfl⟩ isSubtype_stop ?_);exact aE (hP s₁ hp _ fun b o hb=>Heap.get?_push_of_some _ (Heap.get?_push_of_some _ hb))
  ·exact aE ⟨v,rfl,aE (hY v s₁ uo hb hv)⟩
end
noncomputable def yE(s:bT):aQ:=match s with|.Expr (.Yield (some e) _) _=>e|_=>default
noncomputable def yQ(s:bT):Pos:=match s with|.Expr (.Yield _ p) _=>p|_=>default
noncomputable def yP(s:bT):Pos:=match s with|.Expr _ p=>p|_=>default
structure gb where
 b:List bT
 W:List bT
 ws:bT
 fo:bT
 y:bT
noncomputable def adG(b:List bT):gb:=
 let ws:=S9 (b.drop 3)
 let W:=(sG ws).a
 let fo:=S9 (W.drop 2)
 ⟨b,W,ws,fo,S9 (sG fo).b⟩
noncomputable abbrev gb.pre(g:gb):List bT:=fN kT g.b
noncomputable abbrev gb.tst(g:gb):aQ:=real (.lit (.bool true)) (ks 0 g.ws)
noncomputable abbrev gb.wa(g:gb):List bT:=fN C4 g.W
noncomputable abbrev gb.tg(g:gb):aQ:=ks 0 g.fo
noncomputable abbrev gb.ix(g:gb):aQ:=real GN (ks 1 g.fo)
noncomputable abbrev gb.fb(g:gb):List bT:=fN jo (sG g.fo).a
noncomputable abbrev gb.wc(g:gb):List bT:=fN qj ((sG g.fo).b.drop 1)
noncomputable abbrev gb.orelse(g:gb):List bT:=.Expr (.Yield (some (real IZ (yE g.y))) (yQ g.y)) (yP g.y)::g.wc
noncomputable abbrev gb.wd(g:gb):List bT:=fN oK (g.W.drop 3)
noncomputable abbrev gb.rest(g:gb):List bT:=g.b.drop 4
noncomputable abbrev gb.body(g:gb):List bT:=g.pre++(.While g.tst g.W [] (ps g.ws)::g.rest)
noncomputable def νG:Slots:=((kO 4++qt kT++qt C4++[C5]++qt jo++qt qj++qt oK).eraseDups).filterMap fun i=>((oh .aK).names[i]?).map (·,i)
noncomputable def aaY(G:Gm)(g:gb):Bool:=kL kT G g.b&&(kL C4 G g.W&&(qk G.kd G.ν (.one C5) g.tg&&(gx GN G (ks 1 g.fo)&&(kF g.ix&&(kL jo G (sG g.fo).a&&(gx IZ G (yE g.y)&&(kL qj G ((sG g.fo).b.drop 1)&&kL oK G (g.W.drop 3))))))))
structure ql(G:Gm)(g:gb):Prop where
 w:g.W=g.wa++(.For g.tg g.ix g.fb g.orelse (ps g.fo)::g.wd)
 c:aaY G g=true
noncomputable def gen:gb:=adG (mh .aK)
noncomputable def Mv:Gm:=⟨(fdOf .aK).scope.names,νG,true⟩
theorem A9:ql Mv gen:=⟨by kernel_rfl,by kernel_rfl⟩
structure Xp(f:Fn)(g:Bool)(ν:Slots):Prop where
 ob:∀w,(KK w).lookup (vh f)=some ⟨.type "function",none,.func (fdOf f), #[]⟩
 bd:(fdOf f).body=.stmts (mh f)
 code:∀w,∃c o vs t,(fdOf f).code=.ref c∧(KK w).lookup c=some o∧o.data=.fields vs∧vs[1]? =some (.str (fdOf f).qualname t)
 fix:((fdOf f).closure,(fdOf f).globals,(fdOf f).builtins,(fdOf f).scope.kind,(fdOf f).scope.isCoroutine,(fdOf f).scope.isGenerator)=([],mainGlobals,builtinsNs,.function,false,g)
 cD:(decide (((cellsFrom 0 (fdOf f).scope.names []).map (·.1)).Nodup)&&(((fdOf f).scope.names.all fun p=>decide (p.2≠.free)&&(decide (p.2≠.cell)||decide (p.1∈(cellsFrom 0 (fdOf f).scope.names []).map (·.1))))&&
  (decide (ν.map (·.2)).Nodup&&(decide (qY f).Nodup&&((qY f).all (fun x=>decide ((fdOf f).scope.names.lookup x=some .local)||decide ((fdOf f).scope.names.lookup x=some .cell))&&(ν.all fun p=>decide (p.2<4→(qY f)[p.2]? =some p.1)))))))=true
 four:(qY f).length=4
 bind:∀(s:aB)(a b c d:Value),wQ s (fdOf f) ⟨[a,b,c,d],[]⟩ ((qY f).zip [a,b,c,d])
theorem BG:Xp .aK true νG:=⟨fun w=>rfl,rfl,fun w=>⟨_,_,_,_,rfl,rfl,rfl,rfl⟩,rfl,by kernel_rfl,by kernel_rfl,fun _ _ _ _ _=>gD rfl⟩
theorem DC:Xp .aZ false (qX .aZ):=⟨fun w=>rfl,rfl,fun w=>⟨_,_,_,_,rfl,rfl,rfl,rfl⟩,rfl,by kernel_rfl,by kernel_rfl,fun _ _ _ _ _=>gD rfl⟩
theorem xF:Xp .bl false (qX .bl):=⟨fun w=>rfl,rfl,fun w=>⟨_,_,_,_,rfl,rfl,rfl,rfl⟩,rfl,by kernel_rfl,by kernel_rfl,fun _ _ _ _ _=>gD rfl⟩
theorem Xp.static(c:Xp f g ν)(w:bz):Xi w (vh f) (fdOf f) (mh f) ν where
 ob:=⟨_,c.ob w,rfl⟩
 code:=c.code w
 body:=c.bd
 clo:=aR (·.1) c.fix
 gl:=aR (·.2.1) c.fix
 bu:=aR (·.2.2.1) c.fix
 fn:=aR (·.2.2.2.1) c.fix
 co:=aR (·.2.2.2.2.1) c.fix
 BD:=cP (ay c.cD)
 xD n hn:=by
  haveI q:=iE.mp (ay (ak c.cD)) _ (mem_of_lookup hn);exact((rt ..).mp (ak q)).elim (fun y=>absurd rfl (cP y)) cP
 Hh n hn:=by
  haveI q:=iE.mp (ay (ak c.cD)) _ (mem_of_lookup hn);exact cP (ay q) rfl
 ni:=zT (cP (ay (ak (ak c.cD))))
theorem Xp.lu(c:Xp f g ν)(hd:A.depth<recursionLimit)(has:iy ρ [x1,x2,x3,x4] as')(Ae:lm=[some x1,some x2,some x3,some x4]++nO k none):
  A8 A w (vh f) (fdOf f) (mh f) ν ρ as' [x1,x2,x3,x4] lm where
 hd:=hd
 fn:=c.static w
 go {P} k':=by
  have q:=ak (ak (ak c.cD));haveI hb:∀s:aB,wQ s (fdOf f) ⟨as',[]⟩ ((qY f).zip as'):=by
   cases has with|cons h1 h=>cases h with|cons h2 h=>cases h with|cons h3 h=>cases h with|cons h4 h=>cases h with|nil=>exact fun s=>c.bind s _ _ _ _
  exact k' as' (qY f) k (fun s _=>hb s) has c.four (cP (ay q)) (fun x hx=>((rt ..).mp (iE.mp (ay (ak q)) x hx)).imp cP cP) Ae
   fun x i hx hi=>cP (iE.mp (ak (ak q)) _ (mem_of_lookup hx)) hi
set_option genCtorIdx false in
inductive GR where
 |cont (lm:LM) (H:Hp)|fin (H:Hp)
noncomputable def GR.ctorIdx(x:GR):Nat:=GR.casesOn x (fun _ _=>0) (fun _=>1)
inductive GD(n:Nat)(lm:LM)(H:Hp):GR→Prop
 |cont {aI:LM} {H':Hp} (h:fS n oK lm H .next aI H'):GD n lm H (.cont aI H')
 |fin {aI:LM} {H':Hp} (h:fS n oK lm H (.ret .none) aI H'):GD n lm H (.fin H')
inductive GA(n:Nat)(lm:LM)(H:Hp):GR→Prop
 |d {aI:LM} {H':Hp} {r:GR} (h:fS n qj lm H .next aI H') (d:GD n aI H' r):GA n lm H r
 |fin {aI:LM} {H':Hp} (h:fS n qj lm H (.ret .none) aI H'):GA n lm H (.fin H')
inductive Nm(n:Nat)(lm:LM)(H:Hp)(q:Option Fl)(aI:LM)(H':Hp):Prop
 |mk {iZ:LM} {H1 H2:Hp} {l:Nat} {xs:List AV} (a:fS n C4 lm H .next iZ H1) (it:Ev n GN iZ H1 (.loc l) H2) (w:Wk H2 l xs) (t:Tur n (.one C5) jo H2 l xs iZ H2 q aI H')
inductive MI(n:Nat)(lm:LM)(H:Hp)(r:GR):Prop
 |mk {iZ:LM} {H1:Hp} (a:Nm n lm H (some .next) iZ H1) (d:GD n iZ H1 r)
inductive SR(n:Nat)(lm:LM)(H:Hp)(v:AV)(aI:LM)(H':Hp):Prop
 |mk {H1:Hp} (a:Nm n lm H none aI H1) (y:Ev n IZ aI H1 v H')
section
variable{C:Cx}{A₀:aG}{env:Env}{outer:List Env}{N:Nat}{G:Gm}{g:gb}{R:qz}{Y:m9}{n:Nat}{s₀:aB}
noncomputable abbrev Td(g:gb)(env:Env):Code:=.func g.body env
noncomputable abbrev sM(g:gb)(env:Env):Code:=.whileLoop g.tst g.W [] env
noncomputable abbrev gK0:gF→Sem PySem.Fin:=fun f=>.pure (.done (.ret (match f with|.ret v=>v|_=>.none)))
noncomputable abbrev gH0(env:Env):Value→Sem PySem.Fin:=fun e=>(leaving env e).wrap (fun _=>.raise e) .raise id id
noncomputable abbrev gKA(g:gb)(env:Env):gF→Sem PySem.Fin:=fun f=>match f with|.next=>(PySem.execs g.rest env).wrap gK0 (gH0 env) id id|f=>gK0 f
noncomputable abbrev EY(g:gb)(env:Env)(p:Pos):List Frame:=[.ret (Nk env (gKA g env) (gH0 env) id id) none (id false) (id []) (Td g env) p []]
noncomputable abbrev gKW(g:gb)(env:Env):gF→Sem PySem.Fin:=fun f=>match f with
 |.next|.cont=>.pure (.again (sM g env))
 |.brk=>.pure (.done .next)
 |.ret v=>.pure (.done (.ret v))
noncomputable abbrev gHW(env:Env):Value→Sem PySem.Fin:=fun e=>(do noteFrame e env;theTreesLotGoes e:Sem Unit).wrap (fun _=>.raise e) .raise id id
noncomputable abbrev gK2(g:gb)(env:Env):gF→Sem PySem.Fin:=fun f=>match f with|.next=>(PySem.execs g.wd env).wrap (gKW g env) (gHW env) id id|f=>gKW g env f
noncomputable abbrev gF2(g:gb)(env:Env)(p p2:Pos)(l2:List Value):List Frame:=.ret (Nk env (gK2 g env) (gHW env) id id) none (id false) l2 (sM g env) p2 []::EY g env p
theorem aaZ:A₀.over (Td g env) []=A₀.deeper env:=rfl
theorem Nn:A₀.over (sM g env) (EY g env p)=A₀.deeper env:=rfl
theorem WK:A₀.over (.forLoop tg it b e env) (gF2 g env p p2 l2)=A₀.deeper env:=rfl
theorem aa0:A₀.over (.block b env) (gF2 g env p p2 l2)=A₀.deeper env:=rfl
theorem Em{K:gF→Sem PySem.Fin}{H:Value→Sem PySem.Fin}{gd:Bool→Bool}{lv:List Value→List Value}{W pre rest:List bT}(hW:W=pre++rest)
  (h:wpAny M (A.over c fs) (PySem.execs pre env) (fun f s'=>match f with|.next=>Seg M A R Y n s₀ c ((PySem.execs rest env).wrap K H gd lv) fs s'|f=>Seg M A R Y n s₀ c (K f) fs s') (fun _ _=>False) s):
  Seg M A R Y n s₀ c ((PySem.execs W env).wrap K H gd lv) fs s:=by
 subst hW;exact x9 h
theorem Qc(h:R n s₀ (.ok (.ret .none)) s):Seg (model PG C.w) A₀ R Y n s₀ (sM g env) (.pure (.done (.ret .none))) (EY g env p) s:=
 AB (.ok (.ret .none)) (seg_end (.ok (.ret .none)) h)
def rF(C:Cx)(A₀:aG)(env:Env)(G:Gm)(g:gb)(R:qz)(Y:m9)(n:Nat)(s₀:aB)(p:Pos)(ρ:List ah)(s:aB):GR→Prop
 |.cont lm H=> ∀m X aV s',Mo env C m X→Go ρ aV s s'→At (C.st m X) env G.ν aV lm H s'→Seg (model PG C.w) A₀ R Y n s₀ (sM g env) ((model PG C.w).den (sM g env)) (EY g env p) s'
 |.fin H=> ∀lm m X aV s',Mo env C m X→Go ρ aV s s'→At (C.st m X) env G.ν aV lm H s'→R n s₀ (.ok (.ret .none)) s'
variable{ρ aD:List ah}{s s₁:aB}{lm aI:LM}{H H':Hp}{m:Lo}{X:Led}{r:GR}{p p2:Pos}{l2:List Value}
theorem rF.later(z:rF C A₀ env G g R Y n s₀ p ρ s r)(mo:Mo env C m X)(q:Go ρ aD s s₁):rF (C.st m X) A₀ env G g R Y n s₀ p aD s₁ r:=by
 cases r with
 |cont lm H=>exact fun m' X' aV s' sJ q' a=>z m' X' aV s' (mo.trans sJ) (q.trans q') a
 |fin H=>exact fun lm m' X' aV s' sJ q' a=>z lm m' X' aV s' (mo.trans sJ) (q.trans q') a
theorem aci(so:Ks G N C (A₀.deeper env) env outer)(ok:ql G g)(a:At C env G.ν ρ lm H s)(e:GD N lm H r)(z:rF C A₀ env G g R Y n s₀ p ρ s r):
  Seg (model PG C.w) A₀ R Y n s₀ (sM g env) ((PySem.execs g.wd env).wrap (gKW g env) (gHW env) id id) (EY g env p) s:=by
 refine tH ?_;haveI o:kL oK G (g.W.drop 3)=true:=ak (ak (ak (ak (ak (ak (ak (ak ok.c)))))));cases e with
 |cont h=>exact h o so ρ s a _ _ fun m X aV s' f mo q a' hf=>by cases hf;exact AA rfl (z m X aV s' mo q a')
 |fin h=>exact h o so ρ s a _ _ fun m X aV s' f mo q a' hf=>by obtain⟨u,rfl,hu⟩:=hf;cases hu;exact Qc (z _ m X aV s' mo q a')
theorem Rp(so:Ks G N C (A₀.deeper env) env outer)(ok:ql G g)(a:At C env G.ν ρ lm H s)(e:GA N lm H r)(z:rF C A₀ env G g R Y n s₀ p ρ s r):
  Seg (model PG C.w) A₀ R Y n s₀ (.block g.orelse env) ((PySem.execs g.wc env).wrap (fun f=>.pure (.done f)) (gHW env) id id) (gF2 g env p p2 l2) s:=by
 refine tH ?_;have o:kL qj G ((sG g.fo).b.drop 1)=true:=ay (ak (ak (ak (ak (ak (ak (ak ok.c)))))));cases e with
 |d h d=>exact h o so ρ s a _ _ fun m X aV s' f mo q a' hf=>by cases hf;exact AB (.ok .next) (aci (C:=C.st m X) (so.st mo.fs) ok a' d (z.later mo q))
 |fin h=>exact h o so ρ s a _ _ fun m X aV s' f mo q a' hf=>by obtain⟨u,rfl,hu⟩:=hf;cases hu;exact AB (.ok (.ret .none)) (Qc (z _ m X aV s' mo q a'))
theorem drop_tail{xs ys:List AV}(h:xs.drop i=x::ys):xs.drop (i+1)=ys∧i<xs.length:=
 ⟨by(refine ez tM (aa h ?_));rfl,Nat.lt_of_not_le fun q=>by rw[C1 q]at h;cases h⟩
theorem Mo.ne{Y:Led}(mo:Mo env C m Y)(h:∀p∈C.X,p.1≠I):∀p∈Y,p.1≠I:=fun q hq e=>by
 haveI:q.1∈C.X.map (·.1):=mo.xt.keys▸dF hq;refine bE (bX.mp this) fun r hr JM=>?_;exact h r hr (JM.trans e)
def MT(C:Cx)(A₀:aG)(env:Env)(G:Gm)(g:gb)(R:qz)(Y:m9)(n:Nat)(s₀:aB)(p p2:Pos)(l2:List Value)(I:ah)(ρ:List ah)(s:aB)(aI:LM)(H':Hp):Option Fl→Prop
 |none=> ∀m X aV s',Mo env C m X→Go ρ aV s s'→At (C.st m X) env G.ν aV aI H' s'→Seg (model PG C.w) A₀ R Y n s₀ (.block g.orelse env) ((model PG C.w).den (.block g.orelse env)) (gF2 g env p p2 l2) s'
 |some .next=> ∀m X aV s',Mo env C m X→Go ρ aV s s'→At (C.st m X) env G.ν aV aI H' s'→Seg (model PG C.w) A₀ R Y n s₀ (.forLoop g.tg (.ref I) g.fb g.orelse env) (.pure (.done .next)) (gF2 g env p p2 l2) s'
 |_=>False
theorem MT.later(z:MT C A₀ env G g R Y n s₀ p p2 l2 I ρ s aI H' q)(mo:Mo env C m X)(k:Go ρ aD s s₁):MT (C.st m X) A₀ env G g R Y n s₀ p p2 l2 I aD s₁ aI H' q:=by
 cases q with
 |none=>exact fun m' X' aV s' sJ q' a=>z m' X' aV s' (mo.trans sJ) (k.trans q') a
 |some f=>cases f with
  |next=>exact fun m' X' aV s' sJ q' a=>z m' X' aV s' (mo.trans sJ) (k.trans q') a
  |_=>exact z.elim
theorem ZI{xs:List AV}(hh:A₀.handled=none)(ok:ql G g)(sL:I∉f9 env)(yY:I≠env.locals)
  (t:Tur N (.one C5) jo H₀ l ys lm H q aI H'):∀{C:Cx}{i:Nat}{ρ:List ah}{oI:Obj}{s:aB},Ks G N C (A₀.deeper env) env outer→xs.drop i=ys→i≤xs.length→(∀p∈C.X,p.1≠I)→At (C.aM ((I,oI)::C.X)) env G.ν ρ lm H s→EH ρ H l xs i oI→gW H₀ l H→
   MT C A₀ env G g R Y n s₀ p p2 l2 I ρ s aI H' q→
   Seg (model PG C.w) A₀ R Y n s₀ (.forLoop g.tg (.ref I) g.fb g.orelse env) ((model PG C.w).den (.forLoop g.tg (.ref I) g.fb g.orelse env)) (gF2 g env p p2 l2) s:=by
 have o1:qk G.kd G.ν (.one C5) g.tg=true:=ay (ak (ak ok.c));have o2:kL jo G (sG g.fo).a=true:=ay (ak (ak (ak (ak (ak ok.c)))));replace t:=t (fun l h _ _ _=>q=none∧l=aI∧h=H') (q.getD .brk) aI H' (by cases q with|none=>exact .els ⟨rfl,rfl,rfl⟩|some f=>exact .stop)
 induction ys generalizing lm H with
 |nil=>
  intro C i ρ oI s so hd hle Ad a it st z;obtain⟨rfl,rfl,rfl⟩:=t;refine su ?_;refine aa WK (xA (C:=C.aM ((I,oI)::C.X)) hh a.now (.head _) it (Nat.le_antisymm (FW.mp hd) hle) fun s' n' o gg=>?_);haveI dX:bf C ρ _ s':=n'.qp fun q hq=>dG.mpr ⟨.tail _ hq,bN (Ad q hq)⟩;exact z C.m C.X ρ s' (.refl env C) ⟨dz,o,gg⟩ ⟨dX,(a.pop sL yY).lr,(a.pop sL yY).ce⟩
 |cons v Ab ih=>
  intro C i ρ oI s so hd hle Ad a it st z;refine bE t fun iZ b d=>su ?_;refine aa WK (zQ hh so.es o1 sL yY Ad a it hd b fun gw TG qP fH kr j3 mZ C8=>?_);rcases d with d|d
  ·refine jZ d fun oQ uW h k t=>h o2 (so.st (m:=gw) (X:=(I,qP)::TG) kr.fs) ρ fH mZ _ _ fun kK vY iF iz qW jD gK mY r=>Mo.top (C:=C.st gw TG) (q:=(I,qP)) sL jD fun Z hZ iS=>?_;subst hZ;cases r;exact ih t (C:=C.st kK Z) (so.st (kr.trans iS).fs) (drop_tail hd).1 (drop_tail hd).2 ((kr.trans iS).ne Ad) mY (C8.to gK.p ⟨k.1.trans st.1.symm,fun d h=>(k.2 d (st.1.symm.trans h)).trans (st.2 d (st.1.symm.trans h)).symm⟩) k (z.later (kr.trans iS) (j3.trans gK))
  ·refine bE d fun f0 h e=>?_;cases q with
   |none=>cases f0<;>exact(nomatch e)
   |some f=>cases f0 with
    |next=>exact Cv e
    |brk=>
     cases e;refine h o2 (so.st (m:=gw) (X:=(I,qP)::TG) kr.fs) ρ fH mZ _ _ fun kK vY iF iz qW jD gK mY r=>Mo.top (C:=C.st gw TG) (q:=(I,qP)) sL jD fun Z hZ iS=>?_;subst hZ;cases r;exact z kK Z iF iz (kr.trans iS) (j3.trans gK) (mY.pop (C:=C.st kK Z) sL yY)
    |_=>cases e;exact z.elim
end
section
variable{C:Cx}{A₀:aG}{env:Env}{outer:List Env}{N:Nat}{G:Gm}{g:gb}{R:qz}{Y:m9}{n:Nat}{s₀:aB}{ρ aD:List ah}{s s₁:aB}{lm aI:LM}{H H':Hp}{m:Lo}{X:Led}{r:GR}{p p2:Pos}{l2:List Value}
theorem Jp(hh:A₀.handled=none)(so:Ks G N C (A₀.deeper env) env outer)(ok:ql G g)(a:At C env G.ν ρ lm H s)(e:Nm N lm H q aI H')
  (z:∀p2 l2 I,MT C A₀ env G g R Y n s₀ p p2 l2 I ρ s aI H' q):Seg (model PG C.w) A₀ R Y n s₀ (sM g env) ((model PG C.w).den (sM g env)) (EY g env p) s:=by
 obtain⟨ea,it,w,t⟩:=e;refine seg_whileLoop ?_;refine aa Nn (a.ev (fun l=>(Dc (n:=N) (c:=true)).go (G:=G) (x:=ks 0 g.ws) rfl so.e l) fun aD s₁ b adH eO hb=>?_);obtain rfl:=(show b=true from hb);refine aa (aF rfl) (Em ok.w ?_);refine aa Nn (ea (ay (ak ok.c)) so aD s₁ eO _ _ fun m X cE bM f mo adI qu hf=>?_);cases hf;refine FH (U8 (fun x=>kX (ay (ak (ak (ak (ak ok.c))))) x) ?_);refine aa Nn (At.ev (C:=C.st m X) qu (fun l=>it (ay (ak (ak (ak ok.c)))) (so.st mo.fs).e l) fun jf fH u adJ mZ hu=>?_);refine nF (C:=C.st m X) mZ.now hu w fun oI iz s6 gK aa1 p2 l2=>?_;haveI Ad:=mZ.now.fresh;haveI sL:fH.heap.objs.size∉f9 env:=fun hc=>(mZ.ce.at_ _ hc).elim fun o' h=>h.elim fun v' h=>Ad _ h.1 rfl;haveI yY:fH.heap.objs.size≠env.locals:=by
  exact aa so.es.loc (bf.pV (C:=(C.st m X).aM ((fH.heap.objs.size,oI)::X)) s6 (p:=(fH.heap.objs.size,oI)) (.head _))
 exact ZI (C:=C.st m X) hh ok sL yY t (so.st mo.fs) rfl (Nat.zero_le _) Ad (At.push (C:=C.st m X) mZ dz s6) aa1 (.refl _ _) ((z p2 l2 _).later mo (((adH.trans adI).trans adJ).trans gK))
theorem vH(hh:A₀.handled=none)(so:Ks G N C (A₀.deeper env) env outer)(ok:ql G g)(a:At C env G.ν ρ lm H s)(e:MI N lm H r)(z:rF C A₀ env G g R Y n s₀ p ρ s r):
  Seg (model PG C.w) A₀ R Y n s₀ (sM g env) ((model PG C.w).den (sM g env)) (EY g env p) s:=by
 obtain⟨e,d⟩:=e;exact Jp hh so ok a e fun p2 l2 I m X aV s' mo q a'=>AB (.ok .next) (aci (C:=C.st m X) (so.st mo.fs) ok a' d (z.later mo q))
theorem DE(hh:A₀.handled=none)(so:Ks G N C (A₀.deeper env) env outer)(ok:ql G g)(a:At C env G.ν ρ lm H s)(e:SR N lm H v aI H')
  (hy:∀m' X' aV s' u Wa,Mo env C m' X'→Go ρ aV s s'→At (C.st m' X') env G.ν aV aI H' s'→VR aV v u→
   (∀S7 Ms MN j8 r,S7.fs=C.m.fs→GA N aI H' r→At (C.st S7 Ms) env G.ν MN aI H' j8→rF (C.st S7 Ms) A₀ env G g R Y n j8 p MN j8 r→Wa (.send .none) j8)→Y n s₀ u s' Wa):
  Seg (model PG C.w) A₀ R Y (n+1) s₀ (sM g env) ((model PG C.w).den (sM g env)) (EY g env p) s:=by
 obtain⟨e,y⟩:=e;refine Jp hh so ok a e fun p2 l2 I m X aV s' mo q a'=>?_;refine LC (FH ?_);refine seg_Expr_Yield (by rfl) (by rfl) (by rfl) ?_ so.es.ok.co (jS so.es.ok);refine aa aa0 (At.ev (C:=C.st m X) a' (fun l=>y (ay (ak (ak (ak (ak (ak (ak ok.c))))))) (so.st mo.fs).e l) fun Np CP adK adL MU aa2=>?_);intro Wa J7;exact hy m X Np CP adK Wa mo (q.trans adL) MU aa2 fun S7 Ms MN j8 r hm ea IL z=>J7 .none j8 (Rp (C:=C.st S7 Ms) (so.st hm) ok IL ea z)
theorem DF(so:Ks G N C (A₀.deeper env) env outer)(ok:ql G g)(a:At C env G.ν ρ lm H s)(e:fS N kT lm H .next kR jL)
  (h:∀p m' X' aV s',Mo env C m' X'→Go ρ aV s s'→At (C.st m' X') env G.ν aV kR jL s'→Seg (model PG C.w) A₀ R Y n s₀ (sM g env) ((model PG C.w).den (sM g env)) (EY g env p) s'):
  Seg (model PG C.w) A₀ R Y n s₀ (Td g env) ((model PG C.w).den (Td g env)) [] s:=by
 refine seg_func (x9 ?_);refine aa aaZ (e (ay ok.c) so ρ s a _ _ fun m' X' aV s' f mo q a' hf=>?_);cases hf;exact FH (seg_While fun p=>h p m' X' aV s' mo q a')
end
def qZ(n:Nat)(lm:LM)(H:Hp)(us:List AV)(Hf:Hp):Prop:=∀P:LM→Hp→List AV→Hp→Prop,
 (∀{lm aI:LM}{H H' Hf:Hp}{us:List AV},MI n lm H (.cont aI H')→P aI H' us Hf→P lm H us Hf)→
 (∀{lm:LM}{H H':Hp},MI n lm H (.fin H')→P lm H [] H')→
 (∀{v:AV}{lm aI gV:LM}{H H' H2 Hf:Hp}{us:List AV},SR n lm H v aI H'→GA n aI H' (.cont gV H2)→P gV H2 us Hf→P lm H (v::us) Hf)→
 (∀{v:AV}{lm aI:LM}{H H' H2:Hp},SR n lm H v aI H'→GA n aI H' (.fin H2)→P lm H [v] H2)→P lm H us Hf
def v8(n:Nat)(lm:LM)(H:Hp)(ov:Option AV)(Hf:Hp):Prop:=∀P:LM→Hp→Option AV→Hp→Prop,
 (∀{lm aI:LM}{H H' Hf:Hp}{ov:Option AV},MI n lm H (.cont aI H')→P aI H' ov Hf→P lm H ov Hf)→
 (∀{lm:LM}{H H':Hp},MI n lm H (.fin H')→P lm H none H')→
 (∀{v:AV}{lm aI:LM}{H H':Hp},SR n lm H v aI H'→P lm H (some v) H')→P lm H ov Hf
section
variable{n:Nat}{lm aI gV:LM}{H H' H2 Hf:Hp}{us:List AV}{v:AV}{ov:Option AV}
theorem qZ.cont(h:MI n lm H (.cont aI H'))(q:qZ n aI H' us Hf):qZ n lm H us Hf:=fun P a b c d=>a h (q P a b c d)
theorem qZ.fin(h:MI n lm H (.fin H')):qZ n lm H [] H':=fun P a b c d=>b h
theorem qZ.aa3(h:SR n lm H v aI H')(a:GA n aI H' (.cont gV H2))(q:qZ n gV H2 us Hf):qZ n lm H (v::us) Hf:=fun P e b c d=>c h a (q P e b c d)
theorem qZ.adM(h:SR n lm H v aI H')(a:GA n aI H' (.fin H2)):qZ n lm H [v] H2:=fun P e b c d=>d h a
theorem v8.cont(h:MI n lm H (.cont aI H'))(q:v8 n aI H' ov Hf):v8 n lm H ov Hf:=fun P a b c=>a h (q P a b c)
theorem v8.fin(h:MI n lm H (.fin H')):v8 n lm H none H':=fun P a b c=>b h
theorem v8.yld(h:SR n lm H v aI H'):v8 n lm H (some v) H':=fun P a b c=>c h
end
theorem mU.wide(x:mU cs X X')(h:∀a∈cs,a∈cs'):mU cs' X X':=by
 unfold mU at x ⊢
 induction x with
 |nil=>exact .nil
 |cons a _ ih=>exact .cons ⟨a.1,a.2.imp (fun e=>e) (h _)⟩ ih
section
variable{C:Cx}{A₀:aG}{env:Env}{outer:List Env}{N:Nat}{G:Gm}{g:gb}{X₀:Led}{bC:List ah}{S:ah}{vs us:List AV}{Hf:Hp}{lm aI:LM}{H H':Hp}{ρ aV:List ah}{s₀ s s':aB}{m m':Lo}{X X':Led}{j:Nat}
noncomputable abbrev oU(vs:Array Value)(n:Nat):Obj:=⟨.type "list",none,.seq vs n, #[]⟩
def rG(S:ah)(vs:List AV)(j:Nat)(ρ:List ah)(X:Led):Prop:=∃acc nS,(S,oU acc nS)∈X∧bh (VR ρ) (vs.take j) acc.toList
theorem rG.to(t:rG S vs j ρ X)(p:ρ<+:aV)(x:mU cs X X')(hn:S∉cs):rG S vs j aV X':=
 let⟨acc,nS,h1,h2⟩:=t;⟨acc,nS,x.mem h1 hn,fE (fun _ _=>VR.mono p) h2⟩
structure oV(C:Cx)(env:Env)(ν:Slots)(X₀:Led)(bC:List ah)(S:ah)(vs:List AV)(j:Nat)(s₀:aB)(m:Lo)(X:Led)(ρ:List ah)(lm:LM)(H:Hp)(s:aB):Prop where
 fs:m.fs=C.m.fs
 a:At (C.st m X) env ν ρ lm H s
 g:Go bC ρ s₀ s
 xt:mU (S::f9 env) X₀ X
 t:rG S vs j ρ X
noncomputable def E8(C:Cx)(env:Env)(ν:Slots)(X₀:Led)(bC:List ah)(S:ah)(vs:List AV):m9:=fun n s₀ v s₁ Wa=> ∃m X ρ x lm H,vs[vs.length -1 -n]? =some x∧oV C env ν X₀ bC S vs (vs.length -1 -n) s₀ m X ρ lm H s₁∧VR ρ x v∧
 ∀X' j8,At (C.st m X') env ν ρ lm H j8→mU (S::f9 env) X X'→rG S vs (vs.length -n) ρ X'→Wa (.send .none) j8
def E9(C:Cx)(env:Env)(ν:Slots)(X₀:Led)(bC:List ah)(S:ah)(vs:List AV)(Hf:Hp):Nat→aB→aB→Prop:=fun n s₀ s₁=>n=0∧∃m X ρ lm,oV C env ν X₀ bC S vs vs.length s₀ m X ρ lm Hf s₁
noncomputable abbrev Am(P:Nat→aB→aB→Prop):qz:=fun n s₀ r s₁=>r=.ok (.ret .none)∧P n s₀ s₁
theorem oV.step(r:oV C env G.ν X₀ bC S vs j s₀ m X ρ lm H s)(EP:S∉f9 env)(mo:Mo env (C.st m X) m' X')(q:Go ρ aV s s')(a:At (C.st m' X') env G.ν aV aI H' s'):oV C env G.ν X₀ bC S vs j s₀ m' X' aV aI H' s':=
 ⟨mo.fs.trans r.fs,a,r.g.trans q,r.xt.trans (mo.xt.wide fun a h=>.tail _ h),r.t.to q.p mo.xt EP⟩
theorem U9(hh:A₀.handled=none)(so:Ks G N C (A₀.deeper env) env outer)(ok:ql G g)(EP:S∉f9 env)(h:qZ N lm H us Hf):∀{pre:List AV}{m:Lo}{X:Led}{ρ:List ah}{s₀ s:aB},vs=pre++us→
  oV C env G.ν X₀ bC S vs pre.length s₀ m X ρ lm H s→Seg (model PG C.w) A₀ (Am (E9 C env G.ν X₀ bC S vs Hf)) (E8 C env G.ν X₀ bC S vs) us.length s₀ (sM g env) ((model PG C.w).den (sM g env)) (EY g env p) s:=by
 haveI yl:∀{v:AV}{SV:List AV}{lm aI:LM}{H H':Hp}{r:GR}(h:SR N lm H v aI H')(ga:GA N aI H' r){pre:List AV}{m:Lo}{X:Led}{ρ:List ah}{s₀ s:aB},vs=pre++v::SV→oV C env G.ν X₀ bC S vs pre.length s₀ m X ρ lm H s→
   (∀{m X ρ s},oV C env G.ν X₀ bC S vs (pre++[v]).length s m X ρ aI H' s→rF (C.st m X) A₀ env G g (Am (E9 C env G.ν X₀ bC S vs Hf)) (E8 C env G.ν X₀ bC S vs) SV.length s p ρ s r)→
   Seg (model PG C.w) A₀ (Am (E9 C env G.ν X₀ bC S vs Hf)) (E8 C env G.ν X₀ bC S vs) (SV.length+1) s₀ (sM g env) ((model PG C.w).den (sM g env)) (EY g env p) s:=by
  intro v SV lm aI H H' r h ga pre m X ρ s₀ s nZ rr z;refine DE (C:=C.st m X) hh (so.st rr.fs) ok rr.a h fun m' X' aV s' u Wa mo q a' hu hk=>?_;haveI hl:vs.length -1 -SV.length=pre.length:=by refine aa nZ ?_;simp
  haveI SQ:vs.length -SV.length=(pre++[v]).length:=by refine aa nZ ?_;simp;lia
  haveI r':=rr.step EP mo q a';refine⟨m',X',aV,v,aI,H',?_,hl.symm▸r',hu,fun Ms j8 IL Fc Xq=>?_⟩
  ·(refine aa hl (aa nZ ?_));simp
  ·exact hk m' Ms aV j8 r mo.fs ga IL (z ⟨r'.fs,IL,⟨r'.g.p,rfl,Nat.le_refl _⟩,r'.xt.trans Fc,SQ▸Xq⟩)
 intro pre m X ρ s₀ s nZ r;refine h (fun lm H us Hf=>(∀{v:AV}{SV:List AV}{lm aI:LM}{H H':Hp}{r:GR}(h:SR N lm H v aI H')(ga:GA N aI H' r){pre:List AV}{m:Lo}{X:Led}{ρ:List ah}{s₀ s:aB},vs=pre++v::SV→oV C env G.ν X₀ bC S vs pre.length s₀ m X ρ lm H s→
   (∀{m X ρ s},oV C env G.ν X₀ bC S vs (pre++[v]).length s m X ρ aI H' s→rF (C.st m X) A₀ env G g (Am (E9 C env G.ν X₀ bC S vs Hf)) (E8 C env G.ν X₀ bC S vs) SV.length s p ρ s r)→
   Seg (model PG C.w) A₀ (Am (E9 C env G.ν X₀ bC S vs Hf)) (E8 C env G.ν X₀ bC S vs) (SV.length+1) s₀ (sM g env) ((model PG C.w).den (sM g env)) (EY g env p) s)→∀{pre:List AV}{m:Lo}{X:Led}{ρ:List ah}{s₀ s:aB},vs=pre++us→
  oV C env G.ν X₀ bC S vs pre.length s₀ m X ρ lm H s→Seg (model PG C.w) A₀ (Am (E9 C env G.ν X₀ bC S vs Hf)) (E8 C env G.ν X₀ bC S vs) us.length s₀ (sM g env) ((model PG C.w).den (sM g env)) (EY g env p) s) (fun h ih yl=>?_) (fun h yl=>?_) (fun h a ih yl=>?_) (fun h a yl=>?_) yl nZ r
 ·intro pre m X ρ s₀ s nZ r;exact vH (C:=C.st m X) hh (so.st r.fs) ok r.a h fun m' X' aV s' mo q a'=>ih yl nZ (r.step EP mo q a')
 ·intro pre m X ρ s₀ s nZ r;haveI hl:pre.length=vs.length:=by refine aa nZ ?_;simp
  exact vH (C:=C.st m X) hh (so.st r.fs) ok r.a h fun oQ m' X' aV s' mo q a'=>⟨rfl,rfl,m',X',aV,oQ,hl▸r.step EP mo q a'⟩
 ·intro pre m X ρ s₀ s nZ r;exact yl h a nZ r fun{m X ρ s} rr m' X' aV s' mo q a'=>ih yl (by rw[nZ,gQ];rfl) (rr.step EP mo q a')
 ·intro pre m X ρ s₀ s nZ r;exact yl h a nZ r fun{m X ρ s} rr oQ m' X' aV s' mo q a'=>⟨rfl,rfl,m',X',aV,oQ,(show(pre++[_]).length=vs.length by(refine aa nZ ?_;with_reducible rfl))▸rr.step EP mo q a'⟩
noncomputable def X8(C:Cx)(env:Env)(ν:Slots)(bC:List ah)(ov:Option AV)(Hf:Hp):m9:=fun n s₀ v s₁ _=> ∃m X ρ x lm,n=0∧ov=some x∧Mo env C m X∧At (C.st m X) env ν ρ lm Hf s₁∧Go bC ρ s₀ s₁∧VR ρ x v
def X9(C:Cx)(env:Env)(ν:Slots)(bC:List ah)(ov:Option AV)(Hf:Hp):Nat→aB→aB→Prop:=fun n s₀ s₁=>n=0∧ov=none∧∃m X ρ lm,Mo env C m X∧At (C.st m X) env ν ρ lm Hf s₁∧Go bC ρ s₀ s₁
noncomputable def cnt:Option AV→Nat
 |none=>0|some _=>1
theorem LD(hh:A₀.handled=none)(so:Ks G N C (A₀.deeper env) env outer)(ok:ql G g)(h:v8 N lm H ov Hf):∀{m:Lo}{X:Led}{ρ:List ah}{s:aB},
  Mo env C m X→At (C.st m X) env G.ν ρ lm H s→Go bC ρ s₀ s→Seg (model PG C.w) A₀ (Am (X9 C env G.ν bC ov Hf)) (X8 C env G.ν bC ov Hf) (cnt ov) s₀ (sM g env) ((model PG C.w).den (sM g env)) (EY g env p) s:=by
 intro m X ρ s mo a g';refine h (fun lm H ov Hf=> ∀{m:Lo}{X:Led}{ρ:List ah}{s:aB},
  Mo env C m X→At (C.st m X) env G.ν ρ lm H s→Go bC ρ s₀ s→Seg (model PG C.w) A₀ (Am (X9 C env G.ν bC ov Hf)) (X8 C env G.ν bC ov Hf) (cnt ov) s₀ (sM g env) ((model PG C.w).den (sM g env)) (EY g env p) s) (fun h ih=>?_) (fun h=>?_) (fun h=>?_) mo a g'
 ·exact fun{m X ρ s} mo a g=>vH (C:=C.st m X) hh (so.st mo.fs) ok a h fun m' X' aV s' sJ q a'=>ih (mo.trans sJ) a' (g.trans q)
 ·exact fun{m X ρ s} mo a g=>vH (C:=C.st m X) hh (so.st mo.fs) ok a h fun oQ m' X' aV s' sJ q a'=>⟨rfl,rfl,rfl,m',X',aV,oQ,mo.trans sJ,a',g.trans q⟩
 ·exact fun{m X ρ s} mo a g=>DE (C:=C.st m X) hh (so.st mo.fs) ok a h fun m' X' aV s' u Wa sJ q a' hu _=>⟨m',X',aV,_,_,rfl,rfl,mo.trans sJ,a',g.trans q,hu⟩
end
theorem ZJ:mh .aK=gen.body:=by kernel_rfl
noncomputable abbrev Xr:E:=.cQ (.var 0) (.fn [.aK]) (.cons (.var 1) (.cons (.var 2) (.cons (.var 3) .nil)))
theorem bf.gens(n:bf C ρ H s)(hh:s'.heap=s.heap)(hb:iA s'.gens):bf C ρ H s':=by
 obtain⟨N,S,D,b⟩:=n;exact⟨N,hh▸S,D,hb⟩
theorem LI(h:iA a)(hx:x.bare=true):iA (a.push x):=by
 intro y hy;rcases Array.mem_push.mp hy with hy|rfl
 ·exact h y hy
 ·exact hx
theorem kH{s:aB}(h:iA s.gens)(hx:x.bare=true):iA (s.setGen i x).gens:=by
 intro y hy;refine eY (Array.mem_iff_getElem?.mp hy) fun j hj=>?_;replace hj:(s.gens.setIfInBounds i x)[j]? =some y:=hj;rw[Array.getElem?_setIfInBounds]at hj
 split at hj
 ·split at hj
  ·cases hj;exact hx
  ·cases hj
 ·exact h _ (Array.mem_iff_getElem?.mpr ⟨j,hj⟩)
theorem o8(ρ:List ah)(s:aB)(i:Nat)(x:oX):Go ρ ρ s (s.setGen i x):=⟨dz,rfl,by simp[A1]⟩
noncomputable def ee(n dw dQ:Nat):Obj:={cls:=.type "generator",data:=.fields #[.int n 0,.str (fdOf .aK).name dw,.str (fdOf .aK).qualname dQ]}
theorem t8{h:Heap}(e:h.get? a=some (ee n dw dQ)):h.IsGen a n:=⟨_,_,_,e,rfl,rfl,rfl⟩
section
variable{C:Cx}{A:aG}{env:Env}{outer:List Env}{G:Gm}{N:Nat}{ρ:List ah}{H:Hp}{s:aB}{lm:LM}
theorem bf.pre(n:bf C ρ H s):Pre C.w C.g ((C.L,C.m.loc)::C.m.fs) C.X ρ H s:=by
 obtain⟨N,S,D,bg⟩:=n;refine⟨N,⟨S.fr.keep,fun p hp=>⟨(S.nw p hp).1,(S.nw p hp).2.2⟩,S.nd,S.big,S.low,fun p hp=>?_,Nat.le_trans S.fr.above (Nat.le_of_lt (zo S.fr.ns))⟩,D,bg⟩;rcases bw.mp hp with rfl|hp
 ·refine⟨S.fr.ns,fun hm=>?_,Heap.get?_none_of_le S.fr.above⟩;refine bE (bX.mp hm) fun q hq e=>?_;exact(S.nw q hq).2.1 e
 ·refine vU (S.fs p hp) fun z1 _ z3 z4=>?_;exact⟨z1,z3,z4⟩
theorem DG{E:Value→aB→Prop}{Ba:Env}(o:gx Xr G x=true)(K:Ke G N C A env)(f:bJ C A Ba outer)(hd:A.depth<recursionLimit)(n:bf C ρ H s)
  (lr:LR C env G.ν ρ lm) (Ae:lm=[some (.loc l),some x1,some x2,some x3]) (hl:H[l]? =some (.inst .backtracking d)) (V2:H[d]? =some (.attrs fs))
  (h:∀(aY:Env)(cells:Led)(s':aB)(L':ah)(m':Str→Option Value)(Ga gn dw dQ:Nat)(aV:List ah),Go ρ aV s s'→j4 (C.callee aY m' L' ((Ga,ee gn dw dQ)::(cells++C.X))) aY Mv.kd Mv.ν→(∀A':aG,A'.frames=some (aY::C.fr)→bJ (C.callee aY m' L' ((Ga,ee gn dw dQ)::(cells++C.X))) A' aY C.fr)→
   At (C.callee aY m' L' ((Ga,ee gn dw dQ)::(cells++C.X))) aY Mv.ν aV ([some (.loc l),some x1,some x2,some x3]++nO 13 none) H s'→s'.gens[gn]? =some (.fresh (Td gen aY))→(∀c∈f9 aY,∀p∈C.X,p.1≠c)→Ga∉f9 aY→Q (.ref Ga) s'):wpAny (model PG C.w) A (PySem.eval (real Xr x) env) Q E s:=by
 haveI z1:=ak (ay o);haveI z2:=ak o;subst Ae;refine vB (ay z1) (ak z1) (aj (n:=N) (i:=0) rfl (ay z2) K lr s n _ E fun aD s₁ v CN n₁ hv=>VR.eF hv fun a ha pl=>?_);refine M3 (c:=.backtracking) (f:=.aK) (m:=.fn [.aK]) (.inl hl) V2 (fun w=>rfl) (by decide+kernel) K.b.B n₁ ha ?_;refine ai (n:=N) (aj (i:=1) rfl) (ai (aj (i:=2) rfl) (ai (aj (i:=3) rfl) aq)) (ak z2) K (lr.mono CN.p) s₁ n₁ _ _ fun cE bM sF ja dX hv=>⟨Bv (dX.jl K.b.B).X .aK,?_⟩;haveI IM:iy cE [.loc l,x1,x2,x3] (.ref a::sF):=.cons ⟨a,iu ja.p ha,rfl⟩ hv;haveI F:Xi C.w (vh .aK) (fdOf .aK) gen.body νG:=ZJ▸BG.static C.w;refine bE (F.ob) fun o ho Xb=>?_;haveI bs:=dX.jl K.b.B;haveI hcd:bM.heap.CodeRec (fdOf .aK).code (fdOf .aK).qualname:=by
  refine XK (F.code) fun c oc vs t e1 e2 e3 e4=>?_;exact⟨c,oc,vs,t,e1,bs.X _ _ e2,e3,e4⟩
 refine(BG.lu (A:=A) (w:=C.w) (k:=13) hd IM rfl).go fun us pn k hb adN JO qQ jV Ae om=>?_;refine kq (codeAny_call_generator hd (bs.X _ _ ho) Xb F.co (aR (·.2.2.2.2.2) BG.fix) F.body hcd (hb bM bs.X _ _ _ _ ?_));refine qI (fs:=(C.L,C.m.loc)::C.m.fs) (jO:=C.fr) (X:=C.X) K.b.B (f.fs▸ .cons ⟨f.fr,f.kind⟩ f.outs) f.nd F dX.pre adN JO qQ jV Ae om fun aY C' cells s' L' m' hC es f' a' g _ SG Mt hck=>⟨SG,?_⟩;subst hC;haveI n1:bf (C.callee aY m' L' (cells++C.X)) cE H {s' with gens:=s'.gens.push (.fresh (Td gen aY)),toks:=s'.toks+1+1}:=a'.now.gens rfl (LI a'.now.bare rfl);haveI n2:=n1.yz (s':={s' with gens:=s'.gens.push (.fresh (Td gen aY)),toks:=s'.toks+1+1,heap:=s'.heap.push (ee s'.gens.size s'.toks (s'.toks+1))}) (ob:=ee s'.gens.size s'.toks (s'.toks+1)) rfl rfl rfl;refine h aY cells _ L' m' s'.heap.objs.size s'.gens.size s'.toks (s'.toks+1) cE (((CN.trans ja).trans g).trans ⟨dz,rfl,by simp⟩) ⟨es.ok,es.co,es.loc,es.ci,es.ni⟩ (fun A' hA=>(f' A' hA).st (m:=⟨m',(C.L,C.m.loc)::C.m.fs⟩) rfl) (a'.push dz n2) (by simp) Mt fun hc=>?_;refine qU (a'.ce.at_ _ hc) fun o' v' hm Xd=>?_;exact a'.now.fresh _ hm rfl
end
section
variable{C:Cx}{A:aG}{env:Env}{ν:Slots}{ρ:List ah}{H:Hp}{s:aB}{lm:LM}{w:bz}{E:Value→aB→Prop}
noncomputable abbrev lB:Obj:={cls:=.type "list",data:=.seq #[]}
theorem Rq(hg:s.heap.IsGen a gn)
  (h:∀h' tk nS,(∀b o,s.heap.get? b=some o→h'.get? b=some o)→h'.get? s.heap.objs.size=some (oU #[] nS)→codeAny (model PG w) A.in1 (.builtin "list.extend.loop" ⟨[.ref s.heap.objs.size,.ref a,.none],[]⟩) (wants (fun r bM=>r=.none∧Q (.ref s.heap.objs.size) bM) E) {s with heap:=h',toks:=tk}):
  wpAny (model PG w) A (call (.type "list") [.ref a]) Q E s:=by
 haveI kJ:a<s.heap.objs.size:=let⟨_,_,_,ho,_⟩:=hg;Heap.lt_size ho;haveI lU:s.heap.objs.size≠a:=Nat.ne_of_gt kJ;refine callType_codes (Q₁:=fun obj s₁=>obj=.ref s.heap.objs.size∧s₁={s with heap:=s.heap.push lB}) F.called_list (F.typeCall_list_1 _) F.entry_list_init
  (code_list_new _ ⟨rfl,rfl⟩) fun obj s₁ iL=>?_
 refine iK (iL) fun MC JK=>?_;subst MC;subst JK;haveI hS:(s.heap.push lB).get? s.heap.objs.size=some lB:=Heap.get?_push_size _ rfl;refine⟨⟨_,hS,rfl⟩,F.args_list_init_2 _ _,?_⟩;show wpAny _ _ (do let old ←Builtin.List.listItems (.ref s.heap.objs.size);Builtin.List.listUpdate (.ref s.heap.objs.size) (fun _=> #[]);letGo old.toList.reverse;Builtin.List.listExtendWith (.ref s.heap.objs.size) (.ref a) .none) _ _ _
 haveI sS:bY (s.heap.push lB) s.heap.objs.size (.type "list") none #[] 0:=⟨hS,.inl rfl⟩;refine af (fq (s:={s with heap:=s.heap.push lB}) sS ?_);refine af (cY (s:={s with heap:=s.heap.push lB}) sS (by decide) (by decide) ?_);refine af (qy ?_);refine eY (fu (c:=.type "list") (d:=none) (vs:= #[]) (n:=0) (fun _=>(#[]:Array Value))) fun n1 e1=>?_;have mJ:=(⟨by refine ez e1 ?_;exact Heap.get?_update_self _ sS.at_ (by refine aa e1 ?_;rfl),.inl rfl⟩:bY ((s.heap.push lB).update s.heap.objs.size (bK (fun _=>(#[]:Array Value)))) s.heap.objs.size (.type "list") none #[] n1);have yX:∀b o,s.heap.get? b=some o→((s.heap.push lB).update s.heap.objs.size (bK (fun _=>(#[]:Array Value)))).get? b=some o:=fun b o e=>
  (Heap.get?_update_other _ _ (Nat.ne_of_gt (Heap.lt_size e))).trans (Heap.get?_push_of_some _ e)
 generalize hh2:(s.heap.push lB).update s.heap.objs.size (bK (fun _=>(#[]:Array Value)))=h2 at mJ yX;haveI hg2:h2.IsGen a gn:=hg.keeps yX;unfold Builtin.List.listExtendWith;refine af (wM (s:={s with heap:=h2}) hg2.typeIs ?_);haveI h1:Builtin.List.listSameRef (.ref s.heap.objs.size) (.ref a)=false:=by simp[Builtin.List.listSameRef,lU]
 haveI S8:(Value.type "generator" ==Value.type "list")=false:=by decide
 haveI h3:(Value.type "generator" ==Value.type "tuple")=false:=by decide
 simp only[h1,S8,h3,Gd,jT,if_false];refine af (wpAny_pyIter_gen (s:={s with heap:=h2}) hg2 ?_);refine af (dB ?_);unfold Builtin.List.listLengthHint;refine af (rm (s:={s with heap:=h2}) hg2.typeIs PySem.F.gen_no_len ?_);show wpAny _ _ (specialOf (Value.ref a) (av "__length_hint__")>>=_) _ _ _;refine af (rm (s:={s with heap:=h2}) hg2.typeIs PySem.F.gen_no_hint ?_);refine aE ?_;show wpAny _ _ (rule "list.extend.makes-room" >>=fun _=>Builtin.List.listTouch (.ref s.heap.objs.size)>>=fun _=>
  again (.builtin "list.extend.loop" ⟨[.ref s.heap.objs.size,.ref a,.none],[]⟩)) _ _ _
 refine af (oE ?_);refine af ?_;unfold Builtin.List.listTouch;refine af (cY (s:={s with heap:=h2}) mJ (by decide) (by decide) ?_);refine eY (fu (c:=.type "list") (d:=none) (vs:= #[]) (n:=n1) (·.push Value.none)) fun n2 e2=>?_;have I1:=(⟨by refine ez e2 ?_;exact Heap.get?_update_self _ mJ.at_ (by refine aa e2 ?_;rfl),.inl rfl⟩:bY (h2.update s.heap.objs.size (bK (·.push Value.none))) s.heap.objs.size (.type "list") none _ n2);refine cY (s:={s with heap:=h2.update s.heap.objs.size (bK (·.push Value.none))}) I1 (by decide) (by decide) ?_;refine eY (fu (c:=.type "list") (d:=none) (vs:=(#[]:Array Value).push Value.none) (n:=n2) (·.pop)) fun n3 e3=>?_;have aa4:=(⟨by refine ez e3 ?_;exact Heap.get?_update_self _ I1.at_ (by refine aa e3 ?_;rfl),.inl rfl⟩:bY ((h2.update s.heap.objs.size (bK (·.push Value.none))).update s.heap.objs.size (bK (·.pop))) s.heap.objs.size (.type "list") none _ n3);refine aE ⟨kj PySem.F.plain_extend_loop _,h _ s.toks n3 (fun b o e=>?_) (by simpa using aa4.at_)⟩;have hb:s.heap.objs.size≠b:=Nat.ne_of_gt (Heap.lt_size e);exact(Heap.get?_update_other _ _ hb).trans ((Heap.get?_update_other _ _ hb).trans (yX b o e))
structure aa5(C:Cx)(env:Env)(ν:Slots)(X₀:Led)(bC:List ah)(S:ah)(vs:List AV)(Hf:Hp)(A₀:aG)(gn:Nat)(i:Nat)(s:aB)(gs:oX)(m:Lo)(X:Led)(ρ:List ah)(lm:LM)(H:Hp):Prop where
 Tc:s.gens[gn]? =some gs
 fs:m.fs=C.m.fs
 a:At (C.st m X) env ν ρ lm H s
 xt:mU (S::f9 env) X₀ X
 t:rG S vs i ρ X
 go:∀X' j8,At (C.st m X') env ν ρ lm H j8→mU (S::f9 env) X X'→rG S vs i ρ X'→gs.Goes (model PG C.w) A₀ (Am (E9 C env ν X₀ bC S vs Hf)) (E8 C env ν X₀ bC S vs) (vs.length -i) (.send .none) j8
theorem At.gens(a:At C env ν ρ lm H s)(hh:s'.heap=s.heap)(hb:iA s'.gens):At C env ν ρ lm H s':=⟨a.now.gens hh hb,a.lr,a.ce⟩
theorem zX{S:ah}{nS:Nat}(a:At C env ν ρ lm H s)(EP:S∉f9 env)(hSl:S≠env.locals)(ho:(S,oU acc nS)∈C.X)(its:bh (VR ρ) (vs.take j) acc.toList)(hx:vs[j]? =some x)(hv:VR ρ x v):
  ∃X',At (C.aM X') env ν ρ lm H {s with heap:=s.heap.update S (bK (·.push v))}∧mU (S::f9 env) C.X X'∧rG S vs (j+1) ρ X':=by
 refine eY (fu (c:=.type "list") (d:=none) (vs:=acc) (n:=nS) (·.push v)) fun II e3=>?_;haveI at0:s.heap.get? S=some (oU acc nS):=a.now.extra (p:=(S,oU acc nS)) ho;haveI hS':(s.heap.update S (bK (·.push v))).get? S=some (oU (acc.push v) II):=(Heap.get?_update_self _ at0 (by refine aa e3 ?_;rfl)).trans (aR some e3);haveI dX:bf (C.aM (putN S (oU (acc.push v) II) C.X)) ρ H {s with heap:=s.heap.update S (bK (·.push v))}:=
  a.now.yC (s':={s with heap:=s.heap.update S (bK (·.push v))}) ho (fun b o hb e=>(Heap.get?_update_other _ _ (dg hb)).trans e) hS' rfl
 haveI sub:∀p∈C.X,(p.1∈f9 env∨p.1=env.locals)→p∈putN S (oU (acc.push v) II) C.X:=fun p hp hc=>cH (o:=p.2) hp fun e=>by
  rcases hc with hc|hc
  ·exact EP (e▸hc)
  ·exact hSl (e▸hc)
 refine⟨_,⟨dX,LR.sub (C:=C) (X:=C.X) a.lr sub,a.ce.sub sub⟩,mU.put (.head _) _ _,acc.push v,II,eL ho,?_⟩;haveI h1:vs.take (j+1)=vs.take j++[x]:=by
  (refine aa List.take_add_one (aa hx ?_));rfl
 (refine aa h1 (aa Array.toList_push ?_))
 exact its.append (.cons hv .nil)
theorem Iq{S Ga gn:Nat}{res:Value}{s₀:aB}{R:kC→aB→Prop}(B:qS C.w C.g)(hh:A.handled=none)(zC:A.depth<recursionLimit)(EP:S∉f9 env)(hSl:S≠env.locals)(hG:(Ga,oG)∈X₀)(hGS:Ga≠S)(hGc:Ga∉f9 env)(CV:∀h:Heap,h.get? Ga=some oG→h.IsGen Ga gn)
  (hz:vs.length<bQ) (hR:∀m X ρ lm s',m.fs=C.m.fs→At (C.st m X) env ν ρ lm Hf s'→mU (S::f9 env) X₀ X→rG S vs vs.length ρ X→Go bC ρ s₀ s'→R (.ok (.ret res)) s'):
  ∀(k i:Nat)(s:aB)(gs:oX)(m:Lo)(X:Led)(ρ:List ah)(lm:LM)(H:Hp),vs.length -i=k→i≤vs.length→aa5 C env ν X₀ bC S vs Hf A.in1.in1 gn i s gs m X ρ lm H→Go bC bC s₀ s→
   codeAny (model PG C.w) A (.builtin "list.extend.loop" ⟨[.ref S,.ref Ga,res],[]⟩) R s:=by
 intro k
 induction k with
 |zero=>
  intro i s gs m X ρ lm H hk hi L Nq;refine oA PySem.F.entry_extend_loop ?_;refine aa (nP PySem.F.plain_extend_loop _) ?_;show wpAny _ A.in1 (pyNext (.ref Ga)>>=_) _ _ s;have gm:(Ga,oG)∈X:=L.xt.mem hG (by simp[hGS,hGc]);have Nr:=CV _ (L.a.now.extra (p:=(Ga,oG)) gm);have lim:s.heap.NoLimit:=let⟨_,_,T⟩:=(bf.jl (C:=C.st m X) L.a.now B).T;T.nolimit;have VY:i=vs.length:=Nat.le_antisymm hi (Nat.le_of_sub_eq_zero hk);haveI go:=L.go X (s.setGen gn .running) (L.a.gens rfl (kH L.a.now.bare rfl)) (mU.refl _ _) L.t;rw[hk]at go;refine af (uM (A:=A.in1) (n:=0) hh lim zC Nr L.Tc go (fun v s₁ uo hb hY=>?_) fun s₁ hP h' sI=>?_)
  ·refine abQ (hY) fun m' X' aV x aI H' hx r hv J7=>?_;have e0:vs.length -1 -(0 -1)+1=vs.length -(0 -1):=by
    exact Nat.sub_add_cancel (Nat.lt_of_le_of_lt (Nat.zero_le _) (fU.mp hx).1)
   refine qU (r.t) fun acc nS ho its=>?_;refine kZ (zX (C:=C.st m' X') r.a EP hSl ho its hx hv) fun Ms IL Fc Xq=>?_;exact(J7 Ms _ IL Fc (e0▸Xq)).elim
  ·obtain⟨_,m',X',aV,aI,r⟩:=hP;haveI n₁:bf (C.st m' X') aV Hf {s₁.setGen gn .finished with heap:=h'}:=bf.grow (s:=s₁.setGen gn .finished) (s':={s₁.setGen gn .finished with heap:=h'}) (r.a.now.gens (s':=s₁.setGen gn .finished) rfl (kH r.a.now.bare rfl)) sI rfl;exact aE (hR m' X' aV aI _ r.fs (r.a.mono dz n₁) r.xt r.t (((Nq.trans (o8 bC s gn .running)).trans r.g).trans ((o8 aV s₁ gn .finished).trans ⟨dz,rfl,Nat.le_refl _⟩)))
 |succ k ih=>
  intro i s gs m X ρ lm H hk hi L Nq;haveI kJ:i<vs.length:=Nat.lt_of_sub_eq_succ hk;haveI el:vs.length=i+(k+1):=(Nat.add_sub_of_le hi).symm.trans (aR (i+ ·) hk);refine oA PySem.F.entry_extend_loop ?_;refine aa (nP PySem.F.plain_extend_loop _) ?_;show wpAny _ A.in1 (pyNext (.ref Ga)>>=_) _ _ s;have gm:(Ga,oG)∈X:=L.xt.mem hG (by simp[hGS,hGc]);have Nr:=CV _ (L.a.now.extra (p:=(Ga,oG)) gm);have lim:s.heap.NoLimit:=let⟨_,_,T⟩:=(bf.jl (C:=C.st m X) L.a.now B).T;T.nolimit;have gsl:gn<s.gens.size:=(Array.getElem?_eq_some_iff.mp L.Tc).1;have go:=L.go X (s.setGen gn .running) (L.a.gens rfl (kH L.a.now.bare rfl)) (mU.refl _ _) L.t;rw[hk]at go;refine af (uM (A:=A.in1) (n:=k+1) hh lim zC Nr L.Tc go (fun v s₁ uo hb hY=>?_) fun s₁ hP h' sI=>absurd hP.1 (Nat.succ_ne_zero _));refine abQ (hY) fun m' X' aV x aI H' hx r hv J7=>?_;have en:vs.length -1 -(k+1 -1)=i:=by
   rw[el];exact Nat.add_sub_cancel (n:=i) (m:=k)
  rw[en]at hx r;refine qU (r.t) fun acc nS ho its=>?_;have hal:acc.size=i:=by
   have:=its.length;rw[AJ,Nat.min_eq_left hi]at this;exact ez Array.length_toList this.symm
  have aa6:iA (s₁.setGen gn uo).gens:=kH r.a.now.bare hb;have eO:At (C.st m' X') env ν aV aI H' (s₁.setGen gn uo):=r.a.gens rfl aa6;have sS:bY (s₁.setGen gn uo).heap S (.type "list") none acc nS:=⟨eO.now.extra (p:=(S,oU acc nS)) ho,.inl rfl⟩;refine af (cY (s:=s₁.setGen gn uo) sS (hal▸Nat.lt_trans kJ hz) (by rw[Array.size_push,hal];exact Nat.le_of_lt (Nat.lt_of_le_of_lt kJ hz)) ?_);refine kZ (zX (C:=C.st m' X') eO EP hSl ho its hx hv) fun MV qu xp dQ=>?_;have adO:gn<s₁.gens.size:=by
   have:=r.g.g;simp only[A1,Array.size_setIfInBounds]at this;exact Nat.lt_of_lt_of_le gsl this
  have gg:=((Nq.trans (o8 bC s gn .running)).trans r.g).trans (o8 aV s₁ gn uo);refine aE ⟨kj PySem.F.plain_extend_loop _,ih (i+1) _ uo m' MV aV aI H' (aR Nat.pred hk) kJ ⟨?_,r.fs,qu,r.xt.trans xp,dQ,fun Ms j8 IL Fc Xq=>?_⟩ ⟨dz,gg.o,gg.g⟩⟩
  ·show(s₁.setGen gn uo).gens[gn]? =some uo;simp[A1,adO]
  ·have e4:vs.length -(i+1)=k:=aR Nat.pred hk;have e5:vs.length -(k+1 -1)=i+1:=by
    rw[el];exact(aR (fun z=>z -k) (Nat.succ_add i k)).symm.trans (Nat.add_sub_cancel (n:=i+1) (m:=k))
   rw[e5]at J7;have:=J7 Ms j8 IL (xp.trans Fc) Xq;exact aa e4 this
end
theorem Ir:isSubtype (.type "StopIteration") (.type "BaseException")=pure true∧isSubtype (.type ((O3 "StopIteration").elim "type" fun y=>y.metatype)) (.type "tuple")=pure false∧isSubtype (.type "StopIteration") (.type "StopIteration")=pure true:=by
 refine⟨?_,?_,?_⟩<;>(rw[qx];with_unfolding_all kernel_rfl)
theorem Eo:entryFor table "next" =some Builtin.«next» :=entryFor_of_fast (by kernel_rfl)
theorem Iu(a:Value):argsOk "next" ⟨[a],[]⟩:=by unfold argsOk;kernel_rfl
theorem Rt{E:Value→aB→Prop}{gs:oX}{P:Nat→aB→aB→Prop}{Y:m9}{Q:Value→aB→Prop}(hh:A.handled=none)
  (hl:s.heap.NoLimit) (zC:A.depth<recursionLimit)
  (hg:s.heap.IsGen a g) (Tc:s.gens[g]? =some gs)
  (Xo:gs.Goes (model PG w) A.in1.in1 (fun n s₀ r s₁=>r=.ok (.ret .none)∧P n s₀ s₁) Y n (.send .none) (s.setGen g .running))
  (hY:∀v s₁ uo,uo.bare=true→Y (n -1) (s.setGen g .running) v s₁ (fun r' j8=>match n with
    |0=>False
    |m+1=>uo.Goes (model PG w) A.in1.in1 (fun n s₀ r s₁=>r=.ok (.ret .none)∧P n s₀ s₁) Y m r' j8)→Q v (s₁.setGen g uo))
  (hP:∀s₁,P n (s.setGen g .running) s₁→∀h' e,(∀b o,s₁.heap.get? b=some o→h'.get? b=some o)→s₁.heap.get? e=none→Bm h' e (.type "StopIteration")→E (.ref e) {s₁.setGen g .finished with heap:=h'}):
  wpAny (model PG w) A (call (.builtin "next") [.ref a]) Q E s:=by
 refine zl (by decide+kernel) (by decide+kernel) Eo (Iu _) ?_;delta Builtin.«next»;refine af (m:=someArgs "next" 1 2 _) (mD (a:=[Value.ref a]) (by first|rfl|kernel_rfl!) ?_);dsimp only;refine af (rm (name:=av "__next__") hg.typeIs wK.lookup ?_);refine As (fun Xc=>absurd Xc (by decide)) (fun _=>?_);refine af ?_;refine CY (name:=av "__next__") hg.typeIs wK
  (oz wK hg.typeIs entry_gen_next ?_ (args_gen_next _))
 show wpAny _ A.in1.in1 (Builtin.Generator.genWake (.ref a) (.send .none)) _ _ s;delta Builtin.Generator.genWake;refine af (dB (wpAny_genNumber hg (af (wpAny_genState Tc ?_))));cases gs with
 |running=>exact Xo.elim
 |finished=>exact Xo.elim
 |_=>
  refine af (wpAny_roomToWake hl zC ?_);show wpAny _ A.in1.in1 (.resume g (.send .none) [] _) _ _ s;refine wpAny_resumeQ Tc Xo (fun x s₁ hx=>?_) (fun v s₁ uo hb hv=>?_)
  ·refine iK (hx) fun MC hp=>?_;subst MC;show wpAny _ A.in1.in1 (newExc (.type "StopIteration") []>>=_) _ _ _;refine af ?_;dsimp only[newExc,newTuple];refine af (nK ?_ (by size_fits));refine af (m:=firstArgMember _ _) (mD (a:=Value.none) (by first|rfl|(dsimp only[firstArgMember];rfl)) ?_);refine nK ?_ (by size_fits);dsimp only[raiseNew];refine af (af (FI ?_));refine aa (show A.in1.in1.handled=none from hh) (FO ?_);refine hP s₁ hp _ _ (fun b o hb=>Heap.get?_push_of_some _ (Heap.get?_push_of_some _ hb)) ?_ ⟨_,_,_,Heap.get?_push_size _ rfl,rfl,rfl,rfl,rfl⟩;exact Heap.get?_none_of_le (by show s₁.heap.objs.size≤(s₁.heap.push _).objs.size;rw[Heap.size_push];exact Nat.le_succ _)
  ·exact aE ⟨v,rfl,aE ⟨v,rfl,hY v s₁ uo hb hv⟩⟩
section
variable{C:Cx}{A:aG}{env:Env}{outer:List Env}{ν:Slots}{kd:cK}{ρ:List ah}{H:Hp}{s:aB}{lm:LM}
theorem Ep(f:bJ C A env outer)(n:bf C ρ H s)(keep:∀b o,s.heap.get? b=some o→h'.get? b=some o)(new:s.heap.get? e=none)(fr:Bm h' e cls):
  ∃N B,St C.g C.L C.m h' N∧HX C.w ρ H C.X N∧C.g.StaysIn B∧(∀q∈N,B.get? q.1=some q.2)∧qD B (env::outer) C.L e cls h':=by
 obtain⟨N,S,D,b⟩:=n
 let as:=C.L::C.m.fs.map (·.1)
 have nN:∀q∈N,q.1∉as:=fun q hq z=>by
  rcases bw.mp z with z|z
  ·exact(S.nw q hq).2.1 z
  ·refine bE (bX.mp z) fun p hp e=>?_;exact(S.fs p hp).2.2.1 (e▸dF (f:=je) hq)
 have nL:C.g.get? C.L=none:=Heap.get?_none_of_le S.fr.above;haveI nG:∀b o,C.g.get? b=some o→b∉as:=fun b o q z=>by
  rcases bw.mp z with rfl|z
  ·rw[nL]at q;cases q
  ·refine bE (bX.mp z) fun p hp e=>?_;have:=(S.fs p hp).2.2.2;rw[e,q]at this;cases this
 refine⟨N,hideAll s.heap as,S.grow keep,D,fun b o q=>qA _ (S.fr.keep b o q) (nG b o q),fun q hq=>qA _ (S.nw q hq).1 (nN q hq),⟨fun b o q=>keep b o (w7 _ q),?_,?_,.inr (.inr fr)⟩⟩
 ·cases q:(hideAll s.heap as).get? e with
  |none=>rfl
  |some o=>have:=w7 _ q;rw[new]at this;cases this
 ·refine Heap.FunFrames.cons f.kind f.fr (S.fr.ns.keeps keep) (w6 _ (.head _)) (zP f.outs (fun p hp=>(S.fs p hp).1.keeps keep) fun p hp=>w6 _ (.tail _ (dF hp)))
theorem DH{E:Value→aB→Prop}(b:qS C.w s.heap)(ok:fy env kd)(hk:env.kindOf nm=some .globalImplicit)(e1:nsIn (KK C.w) mainGlobals nm=some none)(e2:bootBuiltins nm=some v)(e3:nm≠ "__name__")(e4:(nm==("__debug__" :Str))=false)(h:Q v s):
  wpAny M A (PySem.eval (.Name nm p) env) Q E s:=by
 refine XJ (b.T) fun mg mb T=>?_;refine Gq ok.fn hk ?_ e4;exact Gs (by exact aa ok.gl T.g) (Gp b.X T.g e1) (by exact aa ok.bu T.b) ((T.builtins _ e3).trans e2) h
theorem bf.Va(n:bf (C.st m X) ρ H s)(hfs:m.fs=(Lc,mc)::fs)(qQ:Lc∉fs.map (·.1))(hn:h'.Ns Lc mc')(hs:Heap.SameBut Lc s.heap h'):
  bf (C.st ⟨m.loc,(Lc,mc')::fs⟩ X) ρ H {s with heap:=h',toks:=t}:=by
 obtain⟨N,S,D,b⟩:=n;refine vU (S.fs (Lc,mc) (hfs▸ .head _)) fun z1 z2 z3 z4=>?_;have yX:∀b o,b≠Lc→s.heap.get? b=some o→h'.get? b=some o:=fun b o hb e=>(hs.2 b hb).trans e;have nsK:∀{a:ah}{mm:Str→Option Value},a≠Lc→s.heap.Ns a mm→h'.Ns a mm:=fun{a mm} ha hm=>by
  refine CJ (hm) fun oL es ep q1 q2=>?_;exact⟨oL,es,ep,yX _ _ ha q1,q2⟩
 refine⟨N,⟨⟨nsK (dg z2) S.fr.ns,fun b o q=>yX b o (fun z=>?_) (S.fr.keep b o q),S.fr.above⟩,fun p hp=>⟨yX _ _ (fun z=>z3 (z▸dF (f:=je) hp)) (S.nw p hp).1,(S.nw p hp).2⟩,S.nd,S.big,S.low,fun p hp=>?_⟩,D,b⟩
 ·rw[z]at q;have q':C.g.get? Lc=some o:=q;rw[show C.g.get? Lc=none from z4]at q';cases q'
 ·rcases bw.mp hp with rfl|hp
  ·exact⟨hn,z2,z3,z4⟩
  ·refine vU (S.fs p (hfs▸ .tail _ hp)) fun y1 y2 y3 y4=>?_;exact⟨nsK (fun z=>qQ (z▸dF (f:=je) hp)) y1,y2,y3,y4⟩
end
noncomputable abbrev drE:E:=.call (.lit (.glob .list)) (.cons Xr .nil)
noncomputable abbrev Hv:SL:=.cons (.ret drE) .nil
theorem Vc:fN Hv (mh .aZ)=mh .aZ:=by kernel_rfl
theorem Vd:kL Hv ⟨(fdOf .aZ).scope.names,qX .aZ,true⟩ (mh .aZ)=true:=by kernel_rfl
section
variable{C:Cx}{A:aG}{env Ba:Env}{outer:List Env}{G:Gm}{N:Nat}{ρ:List ah}{H:Hp}{s:aB}{lm:LM}
theorem bf.out(f:bJ C A env outer)(ab:C.g.objs.size≤C.L)(n:bf ((C.callee aY mm L' XX).st m X) ρ H s)(hfs:m.fs=(C.L,C.m.loc)::C.m.fs)(hX:∀p∈C.X,p∈X):bf C ρ H s:=by
 obtain⟨N,S,D,bg⟩:=n;exact⟨N,S.out (m:=C.m) hfs ab f.nd,⟨D.len,D.nd,D.ob,fun p hp=>D.ext p (hX p hp),fun p hp=>D.sep p (hX p hp)⟩,bg⟩
theorem bf.above(n:bf C ρ H s):C.g.objs.size≤C.L:=let⟨_,S,_,_⟩:=n;S.fr.above
theorem bf.aa7(n:bf C ρ H s){ob jJ:Obj}(k:∀b o,s.heap.get? b=some o→s'.heap.get? b=some o)(hD:s'.heap.get? s.heap.objs.size=some ob)(hf:jJ.isFreed=false)(hg:s'.gens=s.gens):bf (C.aM ((s.heap.objs.size,ob)::C.X)) ρ H s':=by
 haveI n1:=n.yz (s':={s with heap:=s.heap.push jJ}) rfl rfl hf;haveI n2:=n1.yC (s':=s') (o':=ob) (.head _) (fun b o hb e=>?_) hD hg
 ·refine n2.qp fun p hp=>?_;rcases bw.mp hp with rfl|hp
  ·exact eL (.head _)
  ·exact cH (o:=p.2) (.tail _ hp) (n.fresh p hp)
 ·refine k b o ?_;haveI hb':b≠s.heap.objs.size:=hb;haveI e':(s.heap.push jJ).get? b=some o:=e;haveI kJ:b<s.heap.objs.size:=by
   haveI:=Heap.lt_size e';rw[Heap.size_push]at this;exact Nat.lt_of_le_of_ne (Nat.le_of_lt_succ this) hb'
  haveI:(s.heap.push jJ).get? b=s.heap.get? b:=by
   delta Heap.get? Heap.push;refine aa (Array.getElem?_push_lt kJ) ?_;simp[kJ]
  exact ez this e'
theorem Qe(B:qS C.w C.g)(hh:A'.handled=none)(k1:A'.depth+3+10*N+10<recursionLimit)(k2:A'.units+9+100*N+50<cLine)(es:j4 (C.callee cM m₂ qc MV) cM Mv.kd Mv.ν)(f:bJ (C.callee cM m₂ qc MV) A' cM out):
  Ks Mv N (C.callee cM m₂ qc MV) A' cM out:=by
 have K:Kx N (C.callee cM m₂ qc MV) A':=⟨⟨B,hh,by lia,by lia,_,_,f⟩,k1,k2⟩;exact⟨⟨K.b,fun _=>K,es.ok,es.co⟩,f,es⟩
theorem Ru{l d:Nat}{us:List AV}(o:gx drE G x=true)(K:Ke G N C A env)(f:bJ C A Ba outer)(hh:A.handled=none)(k1:A.depth+1+3+10*N+10<recursionLimit)(k2:A.units+6+9+100*N+50<cLine)
  (lr:LR C env G.ν ρ lm) (Ae:lm=[some (.loc l),some x1,some x2,some x3]) (hl:H[l]? =some (.inst .backtracking d)) (V2:H[d]? =some (.attrs fs))
  (pre:fS N kT ([some (.loc l),some x1,some x2,some x3]++nO 13 none) H .next kR jL) (ga:qZ N kR jL us Hf) (sm:us.length<bQ):Sm C A ρ VR H (.loc Hf.length) (Hf++[.list us]) (PySem.eval (real drE x) env):=fun s nw Q E hR=>by
 have z:=ak o;haveI zs:=ak (ay o);show wpAny _ _ (PySem.eval (.Call (.Name (kE .list) (pp (kk 0 x))) [real Xr (hdE ((vw x).xs.drop 1))] [] (pp x)) env) _ _ _;rw[iY];refine af (vG (n:=N) (g:=.list) (ay z) K s nw _ E fun aD s₁ t CN n₁ ht=>VR.qR ht ?_);refine j7 (eu (env:=env) zs _) (iW (eu (env:=env) zs _) (lI (uD (ay (ak z))) ?_));refine DG (ay (ak (ak z))) K f (by omega) n₁ (lr.mono CN.p) Ae hl V2 fun cM eg bM qc m₂ Ga gn dw dQ cE ja uE Yb qu hgn Bb hGc=>⟨⟨_,kQ rfl⟩,?_⟩;have ax:=qu.now.fresh;haveI ZK:bM.heap.IsGen Ga gn:=t8 (qu.now.extra (p:=(Ga,ee gn dw dQ)) (.head _));refine Rq ZK fun qv tk nS adP aa8=>?_;have Hw:∀p∈C.X,p∈(Ga,ee gn dw dQ)::(eg++C.X):=fun p hp=>.tail _ (cU _ hp);have EP:bM.heap.objs.size∉f9 cM:=fun hc=>by
  refine qU (qu.ce.at_ _ hc) fun o' v' hm Xd=>?_;exact ax _ hm rfl
 haveI jx:=qu.now.aa7 (s':={bM with heap:=qv,toks:=tk}) (jJ:=lB) adP aa8 rfl rfl;haveI hSl:bM.heap.objs.size≠cM.locals:=by
  exact aa uE.loc (jx.pV (p:=(bM.heap.objs.size,oU #[] nS)) (.head _))
 haveI mZ:=qu.push dz jx;haveI fk:=Yb (A.in1.in1.in1.deeper cM) (Gg f.frames);have WL:Ks Mv N _ (A.in1.in1.in1.deeper cM) cM C.fr:=Qe K.b.B hh (by show A.depth+1+3+_+_<_;exact k1) (by show A.units+1+1+1+3+9+_+_<_;omega) uE fk;refine Iq (C:=C.callee cM m₂ qc ((Ga,ee gn dw dQ)::(eg++C.X))) (A:=A.in1) (env:=cM) (ν:=Mv.ν) (X₀:=(bM.heap.objs.size,oU #[] nS)::(Ga,ee gn dw dQ)::(eg++C.X)) (bC:=cE) (S:=bM.heap.objs.size) (Ga:=Ga) (gn:=gn) (oG:=ee gn dw dQ) (vs:=us) (Hf:=Hf) (s₀:={bM with heap:=qv,toks:=tk})
  K.b.B hh (by show A.depth<recursionLimit;omega) EP hSl (.tail _ (.head _)) (fun e=>ax (Ga,ee gn dw dQ) (.head _) e) hGc (fun h e=>t8 e) sm (fun m X oO WM CO aa9 CX aba adQ qa=>?_) _ 0 _ (.fresh (Td gen cM)) _ _ cE _ H rfl (Nat.zero_le _) ⟨hgn,rfl,mZ,mU.refl _ _,⟨#[],nS,.head _,.nil⟩,fun X' j8 IL Fc Xq=>⟨rfl,?_⟩⟩ (.refl cE _)
 ·have abb:∀p∈C.X,p∈X:=fun p hp=>aba.mem (cZ _ (Hw p hp)) (by
   simp only[bw,not_or];exact⟨ax p (Hw p hp),fun hc=>Bb _ hc p hp rfl⟩)
  refine qU (adQ) fun acc abd abe its=>?_;rw[Ot]at its;haveI vW:=CX.now.take (o:=.list us) rfl abe ⟨sm,acc,abd,rfl,its⟩;have J4:=bf.out (mm:=m₂) (XX:=(Ga,ee gn dw dQ)::(eg++C.X)) (X:=X.filter fun q=>decide (q.1≠bM.heap.objs.size)) f nw.above vW aa9 fun p hp=>dG.mpr ⟨abb p hp,bN (ax p (Hw p hp))⟩;refine⟨rfl,hR (oO++[bM.heap.objs.size]) CO _ ((CN.trans ja).trans ⟨qa.p.trans (fJ ..),qa.o,qa.g⟩) J4 ⟨bM.heap.objs.size,?_,rfl⟩⟩;refine ez CX.now.length ?_;simp
 ·refine DF (C:=(C.callee cM m₂ qc ((Ga,ee gn dw dQ)::(eg++C.X))).aM X') (A₀:=A.in1.in1.in1) (WL.st rfl) A9 IL pre fun p m' adR Np CP mo yD MU=>?_;exact U9 (C:=C.callee cM m₂ qc ((Ga,ee gn dw dQ)::(eg++C.X))) (A₀:=A.in1.in1.in1) (vs:=us) hh WL A9 EP ga (pre:=[]) rfl ⟨mo.fs,MU,⟨yD.p,yD.o,yD.g⟩,Fc.trans (mo.xt.wide fun _ h=>.tail _ h),Xq.to yD.p mo.xt EP⟩
theorem ZL(hl:H[l]? =some (.inst .backtracking d))(V2:H[d]? =some (.attrs fs))
  (pre:fS n kT ([some (.loc l),some x1,some x2,some x3]++nO 13 none) H .next kR jL) (ga:qZ n kR jL us Hf) (sm:us.length<bQ):Cf (n+1) .aZ [.loc l,x1,x2,x3] H (.loc Hf.length) (Hf++[.list us]):=⟨fun{C A ρ as'} K has=>K.fr.elim fun _ q=>q.elim fun _ fr=>by
 haveI d:=K.dep;haveI u:=K.un;refine Dv (fl:=.ret (.loc Hf.length)) (aI:=[some (.loc l),some x1,some x2,some x3]) K.B fr (aR (·.2.2.2.2.2) DC.fix) (DC.lu (k:=0) (by lia) has rfl) rfl fun aY m' L' X' es fr'=>?_;haveI Kx':=K.callee fr';haveI q:mX (C.callee aY m' L' X') (A.deeper aY) aY (qX .aZ) [some (.loc l),some x1,some x2,some x3] H (.ret (.loc Hf.length)) [some (.loc l),some x1,some x2,some x3] (Hf++[.list us]) (PySem.execs (fN Hv (mh .aZ)) aY):=
  Ji (fun h=>nomatch h) (PU fun lr=>Ru (G:=⟨(fdOf .aZ).scope.names,qX .aZ,true⟩) (ay Vd) ⟨Kx'.b,fun _=>Kx',es.ok,es.co⟩ fr' K.hh (by show A.depth+1+1+3+_+_<_;lia) (by show A.units+3+6+9+_+_<_;lia) lr rfl hl V2 pre ga sm)
 rw[Vc]at q;exact q⟩
end
noncomputable abbrev g1b:List bT:=mh .bl
noncomputable abbrev Xs:bT:=S9 g1b
noncomputable abbrev g1t:bT:=S9 (g1b.drop 1)
noncomputable abbrev g1r:bT:=S9 (sG g1t).a
noncomputable abbrev g1c:aQ:=ks 0 g1r
noncomputable abbrev g1h:kN:=hdH (sG g1t).hs
noncomputable abbrev g1q:bT:=S9 (hBd g1h)
noncomputable abbrev Wb:Str:=(vw (ks 1 Xs)).nm
noncomputable abbrev Qf:List bT:=[.Assign [.Name Wb (pp (ks 1 Xs))] (real Xr (ks 0 Xs)) (ps Xs),
 .Try [.Return (some (.Call (.Name (av "next") (pp (kk 0 g1c))) [.Name Wb (pp (kk 1 g1c))] [] (pp g1c))) (ps g1r)] [.ExceptHandler (some (.Name (av "StopIteration") (pp (hTy g1h)))) none [.Return (some (.Constant .none (vw (ks 0 g1q)).k (vw (ks 0 g1q)).p)) (ps g1q)] (hPs g1h)] [] [] (ps g1t)]
noncomputable abbrev Wc:Gm:=⟨(fdOf .bl).scope.names,qX .bl,true⟩
theorem Ve:mh .bl=Qf:=by kernel_rfl
theorem pR:(gx Xr Wc (ks 0 Xs)&&(w9 (real Xr (ks 0 Xs)) Wb (pp (ks 1 Xs)) Wc.kd&&(decide (Wc.kd.lookup Wb=some .local)&&(lq Wb&&(decide (Wc.kd.lookup (av "next")=some .globalImplicit)&&decide (Wc.kd.lookup (av "StopIteration")=some .globalImplicit))))))=true:=by kernel_rfl
theorem abf(w:bz):nsIn (KK w) mainGlobals (av "next")=some none∧nsIn (KK w) mainGlobals (av "StopIteration")=some none:=⟨rfl,rfl⟩
section
variable{C:Cx}{A:aG}{env Ba:Env}{outer:List Env}{ρ:List ah}{H:Hp}{s:aB}
theorem Qg(hl:H[l]? =some (.inst .backtracking d))(V2:H[d]? =some (.attrs fs))
  (pre:fS n kT ([some (.loc l),some x1,some x2,some x3]++nO 13 none) H .next kR jL) (ga:v8 n kR jL ov Hf):Cf (n+1) .bl [.loc l,x1,x2,x3] H (ov.getD .none) Hf:=⟨fun{C A ρ as'} K has=>K.fr.elim fun env q=>q.elim fun outer fr s nw Q E hR=>by
 haveI dep:=K.dep;haveI un:=K.un;haveI z1:=ay pR;haveI z2:=ay (ak pR);haveI hkt:Wc.kd.lookup Wb=some .local:=cP (ay (ak (ak pR)));haveI adS:=ay (ak (ak (ak pR)));haveI hkn:=cP (ay (ak (ak (ak (ak pR)))));haveI hks:=cP (ak (ak (ak (ak (ak pR)))));haveI hdp:A.depth<recursionLimit:=by lia
 refine(xF.lu (A:=A) (w:=C.w) (k:=0) hdp has rfl).go fun us pn k hb IM JO qQ jV Ae om=>?_;haveI F:Xi C.w (vh .bl) (fdOf .bl) Qf (qX .bl):=Ve▸xF.static C.w;refine qJ K.B fr hdp F (aR (·.2.2.2.2.2) xF.fix) nw (hb s (nw.jl K.B).X) IM JO qQ jV Ae om fun aY cells s' L' m' es f' a g Mt hck=>?_;haveI Kx':=K.callee f';generalize V8:C.callee aY m' L' (cells++C.X)=C' at es f' a Kx';haveI hCX:∀p∈C.X,p∈C'.X:=by subst V8;exact fun p hp=>cU _ hp
 haveI back:∀{m:Str→Option Value}{ρ H s},bf (C'.st ⟨m,C'.m.fs⟩ C'.X) ρ H s→bf C ρ H s:=fun{m ρ H s} n=>by
  subst V8;exact bf.out fr nw.above n rfl hCX
 haveI hw:C'.w=C.w:=by subst V8;rfl
 haveI Kc':Ke Wc n C' (A.deeper aY) aY:=⟨Kx'.b,fun _=>Kx',es.ok,es.co⟩;haveI Cw:∀y,aY.kindOf y=Wc.kd.lookup y:=fun y=>by rw[dU,es.ok.kd]
 haveI hCf:C'.fr=aY::C.fr:=by subst V8;rfl
 refine ez hw (tu ?_);refine aa (exec_Assign_Name (hs:=qH (b:=false) es.ok z2)) (af (gz (af ?_)));refine DG z1 Kc' f' (by show A.depth+1<recursionLimit;lia) a.now a.lr rfl hl V2 fun cM eg bM qc m₂ Ga gn dw dQ cE ja uE Yb qu hgn Bb acU=>?_;haveI abg:bM.heap.Ns C'.L C'.m.loc:=let⟨_,S,_,_⟩:=qu.now;(S.fs (C'.L,C'.m.loc) (.head _)).1;refine af (gz (af (wp_bindName ?_)));refine Fp (m:=C'.m.loc) ((Cw _).trans hkt) (by exact aa es.loc abg) (fun qv I3 WN=>?_) (by refine aa es.ok.fn ?_;rfl);rw[es.loc]at I3 WN;generalize abh:(fun y=>if y=Wb then some (Value.ref Ga)else C'.m.loc y)=gw at I3
 haveI abi:gw Wb=some (.ref Ga):=by exact ez abh (aF rfl)
 haveI qW:bJ (C'.st ⟨gw,C'.m.fs⟩ C'.X) (A.deeper aY) aY C.fr:=f'.st rfl;haveI jx:bf ((C'.st ⟨gw,C'.m.fs⟩ C'.X).callee cM m₂ qc ((Ga,ee gn dw dQ)::(eg++C'.X))) cE H {bM with heap:=qv,toks:=bM.toks+1}:=
  bf.Va (C:=C'.callee cM m₂ qc ((Ga,ee gn dw dQ)::(eg++C'.X))) (m:=⟨m₂,(C'.L,C'.m.loc)::C'.m.fs⟩) (t:=bM.toks+1) qu.now rfl (dO.mp f'.nd).1 I3 WN
 haveI mZ:At ((C'.st ⟨gw,C'.m.fs⟩ C'.X).callee cM m₂ qc ((Ga,ee gn dw dQ)::(eg++C'.X))) cM Mv.ν cE ([some (.loc l),some x1,some x2,some x3]++nO 13 none) H {bM with heap:=qv,toks:=bM.toks+1}:=⟨jx,fun y i v hy hi=>(qu.lr y i v hy hi).elim fun u r=>⟨u,by
  refine⟨?_,r.2⟩;cases r.1 with
  |fast k1 k2 k3=>exact .fast k1 k2 k3
  |own o es ep k1 k2 k3 k4 k5=>exact .own o es ep k1 k2 k3 k4 k5
  |cell c o k1 k2 k3 k4=>exact .cell c o k1 k2 k3 k4⟩,qu.ce⟩
 haveI adT:bJ ((C'.st ⟨gw,C'.m.fs⟩ C'.X).callee cM m₂ qc ((Ga,ee gn dw dQ)::(eg++C'.X))) ((A.deeper aY).in1.in1.deeper cM) cM C'.fr:=by
  haveI q:=Yb ((A.deeper aY).in1.in1.deeper cM) (Gg f'.frames);refine⟨q.fs,q.frames,q.fr,q.kind,?_,q.nd⟩;exact aa f'.fs (.cons ⟨f'.fr,f'.kind⟩ f'.outs)
 haveI WO:=Qe (N:=n) (A':=(A.deeper aY).in1.in1.deeper cM) (C:=C'.st ⟨gw,C'.m.fs⟩ C'.X) Kc'.b.B K.hh (by show A.depth+1+1+3+_+_<_;lia) (by show A.units+3+1+1+3+9+_+_<_;lia) ⟨uE.ok,uE.co,uE.loc,uE.ci,uE.ni⟩ adT;haveI WQ:qS C'.w qv:=jx.jl Kc'.b.B;haveI ZM:qv.IsGen Ga gn:=t8 (jx.extra (p:=(Ga,ee gn dw dQ)) (.head _));haveI acj:Go ρ cE s {bM with heap:=qv,toks:=bM.toks+1}:=(g.trans ja).trans ⟨dz,rfl,Nat.le_refl _⟩;refine aE ?_;refine tu (FD ?_);refine tu (Fy ?_);rw[iY];refine iK (abf C'.w) fun nx1 nx2=>?_;refine af (DH (C:=C') (v:=.builtin "next") WQ es.ok ((Cw _).trans hkn) nx1 (by decide+kernel) (by decide+kernel) (by decide+kernel) ?_);refine j7 (eu (env:=aY) (by rfl) _) (iW (eu (env:=aY) (by rfl) _) (lI rfl ?_));refine Az (Fv es.ok.fn ((Cw _).trans hkt) (m:=gw) (by exact aa es.loc I3) (v:=.ref Ga) abi ?_) (iV adS);refine⟨⟨_,kQ rfl⟩,?_⟩;refine Rt (A:=A.deeper aY) (s:={bM with heap:=qv,toks:=bM.toks+1}) (gs:=.fresh (Td gen cM)) (n:=cnt ov) (P:=X9 ((C'.st ⟨gw,C'.m.fs⟩ C'.X).callee cM m₂ qc ((Ga,ee gn dw dQ)::(eg++C'.X))) cM Mv.ν cE ov Hf) (Y:=X8 ((C'.st ⟨gw,C'.m.fs⟩ C'.X).callee cM m₂ qc ((Ga,ee gn dw dQ)::(eg++C'.X))) cM Mv.ν cE ov Hf)
  K.hh (let⟨_,_,T⟩:=WQ.T;T.nolimit) (by show A.depth+1<recursionLimit;lia) ZM hgn ⟨rfl,?_⟩ (fun v s₁ uo hb hY=>?_) fun s₁ hP Yc e adU ZN Rv=>?_
 ·refine DF (C:=(C'.st ⟨gw,C'.m.fs⟩ C'.X).callee cM m₂ qc ((Ga,ee gn dw dQ)::(eg++C'.X))) (A₀:=(A.deeper aY).in1.in1) WO A9 (mZ.gens (s':=A1 {bM with heap:=qv,toks:=bM.toks+1} gn .running) rfl (kH mZ.now.bare rfl)) pre fun p aeN adR Np CP abj yD MU=>?_;exact LD (C:=(C'.st ⟨gw,C'.m.fs⟩ C'.X).callee cM m₂ qc ((Ga,ee gn dw dQ)::(eg++C'.X))) (A₀:=(A.deeper aY).in1.in1) K.hh WO A9 ga abj MU yD
 ·refine ac1 (hY) fun adV Yd oO x WM _ e_6 De CX qa hv=>?_;subst e_6;haveI vW:=CX.now.gens (s':=s₁.setGen gn uo) rfl (kH CX.now.bare hb);haveI adW:=back (bf.out (mm:=m₂) (XX:=(Ga,ee gn dw dQ)::(eg++C'.X)) (X:=Yd) qW a.now.above vW De.fs fun p hp=>De.xt.mem (.tail _ (cU _ hp)) fun hc=>Bb _ hc p hp rfl);exact hR oO (s₁.setGen gn uo) v ((acj.trans (o8 cE _ gn .running)).trans (qa.trans (o8 oO s₁ gn uo))) adW hv
 ·obtain⟨_,rfl,adV,Yd,oO,WM,De,CX,qa⟩:=hP;haveI vW:=CX.now.gens (s':=s₁.setGen gn .finished) rfl (kH CX.now.bare rfl);haveI J4:=bf.out (mm:=m₂) (XX:=(Ga,ee gn dw dQ)::(eg++C'.X)) (X:=Yd) qW a.now.above vW De.fs fun p hp=>De.xt.mem (.tail _ (cU _ hp)) fun hc=>Bb _ hc p hp rfl;refine abO (Ep (h':=Yc) qW J4 adU ZN Rv) fun N Bh adX adY gB NB F=>?_;haveI yD:Go ρ oO s {s₁.setGen gn .finished with heap:=Yc}:=((acj.trans (o8 cE _ gn .running)).trans (qa.trans (o8 oO s₁ gn .finished))).trans ⟨dz,rfl,Nat.le_refl _⟩;haveI WR:=qW.frames;rw[qW.fs]at WR;refine uK (s:={s₁.setGen gn .finished with heap:=Yc}) WR qW.fr F fun Ye a0 fl up=>?_;refine vS (Ir) fun x1' x2' x3'=>?_;haveI ack:=adX.upTo gB NB fl.1 up;haveI abk:qS C'.w Ye:=Kc'.b.B.keeps fun b o q=>ack.fr.keep b o q;refine Fo (X:= "StopIteration") (T:= "StopIteration") (b:=true) x1' x2' x3' ?_;refine bE (fl.there) fun ob IG E6=>?_;refine DH (C:=C') (s:={s₁.setGen gn .finished with heap:=Ye}) (v:=.type "StopIteration") abk es.ok ((Cw _).trans hks) nx2 (by decide+kernel) (by decide+kernel) (by decide+kernel) ⟨rfl,⟨ob,IG,E6⟩,?_⟩;refine aa (aF rfl) (lands_againW (s:={s₁.setGen gn .finished with heap:=Ye}) fl fun adZ abl abm=>?_);haveI ad0:=ack.upTo gB NB abl.1 abm;haveI ad1:bf (C'.st ⟨gw,C'.m.fs⟩ C'.X) oO Hf {s₁.setGen gn .finished with heap:=adZ}:=⟨N,ad0,adY,J4.bare⟩;refine tu (Fy ?_);exact aE (hR oO _ _ (yD.trans ⟨dz,rfl,Nat.le_refl _⟩) (back ad1) rfl)⟩
end
theorem LJ(w:bz):((KK w).all fun p=>decide (p.2.cls≠.type "list"))=true:=by
 first|rfl|kernel_rfl
theorem BH(hl:h.get? l=some ol)(hd:ol.data=.seq vs n)(x:h.Ns a m):(hideAll h [l]).Ns a m:=by
 refine J0 (x) fun o es ep ho Xd r=>?_;refine⟨o,es,ep,qA _ ho fun hm=>?_,Xd,r⟩;rw[bO.mp hm,hl]at ho;cases ho;rw[hd]at Xd;cases Xd
theorem Rw(KX:(KK w).In h)(T:AW Hd.vw LS mg mb h)(hl:h.get? l=some ol)(hc:ol.cls=.type "list")(hd:ol.data=.seq vs n):qS w (hideAll h [l]):=by
 refine⟨fun b o e=>qA _ (KX b o e) fun hm=>?_,mg,mb,⟨BH hl hd T.g,BH hl hd T.b,?_,T.builtins,T.free⟩⟩
 ·haveI h1:=KX b o e;haveI h2:=iE.mp (LJ w) (b,o) (mem_of_lookupK e);rw[bO.mp hm,hl]at h1;cases h1;haveI:=h2;simp[hc]at this
 ·refine bE (T.nolimit) fun mc hns hnn=>?_;exact⟨mc,BH hl hd hns,hnn⟩
def Bc(xs:List (Int×Nat))(n:Nat):Prop:=∃lm aI H',Mq (oh .Cu) [.loc 0]=some lm∧fS 9 (oh .Cu).body lm [.arg xs n] (.ret (.bool true)) aI H'∧H'[0]? =some (.arg xs n)
theorem LK{Q:Value→aB→Prop}{E:Value→aB→Prop}(KX:(KK w).In s₁.heap)(T:AW Hd.vw LS mg mb s₁.heap)
  (hl:s₁.heap.get? l=some ⟨.type "list",none,.seq (xs.map fun p=>Value.int p.1 p.2).toArray n, #[]⟩) (Yg:l≠1) (hg:iA s₁.gens) (sm:xs.length<bQ) (Cu:Bc xs n)
  (hQ:∀s',(∀b o,s₁.heap.get? b=some o→s'.heap.get? b=some o)→s'.os=s₁.os→iA s'.gens→Q (.bool true) s'):wpAny (model PG w) callerA (call (.ref 421) [.ref l]) Q E s₁:=by
 refine J0 (Cu) fun lm aI H' Ae run h0=>?_;have B:qS w (hideAll s₁.heap [l]):=Rw KX T hl rfl rfl;have ad2:l≠303:=fun q=>by
  obtain⟨o,ho,hc⟩:∃o,(KK w).lookup 303=some o∧o.cls=.type "type" :=⟨_,rfl,rfl⟩;have:=KX _ _ ho;rw[←q,hl]at this;cases this;simp at hc
 haveI c:=Xk .Cu rfl;haveI big:421<s₁.heap.objs.size:=Heap.lt_size (KX _ _ (c.ob w));have pre:Pre w (hideAll s₁.heap [l]) [] [] [l] [.arg xs n] s₁:=by
  refine⟨[(l,⟨.type "list",none,.seq (xs.map fun p=>Value.int p.1 p.2).toArray n, #[]⟩)],⟨fun b o q=>w7 _ q,fun p hp=>?_,by simp,by rw[hideAll_size];exact big,fun p hp=>?_,fun p hp=>(nx hp),by rw[hideAll_size];exact Nat.le_refl _⟩,⟨rfl,by simp,fun i o q=>?_,fun p hp=>(nx hp),fun p hp=>(nx hp)⟩,hg⟩
  ·cases bO.mp hp;exact⟨hl,w6 _ (.head _)⟩
  ·cases bO.mp hp;exact⟨Yg,ad2⟩
  ·cases i with
   |zero=>cases q;exact⟨l,_,rfl,.head _,sm,rfl⟩
   |succ i=>cases q
 haveI F:=c.static w;refine bE (F.ob) fun o ho Xb=>?_;have hcd:s₁.heap.CodeRec (fdOf .Cu).code (fdOf .Cu).qualname:=by
  refine XK (F.code) fun c oc vs t e1 e2 e3 e4=>?_;exact⟨c,oc,vs,t,e1,KX _ _ e2,e3,e4⟩
 refine(BE (A:=callerA) (C:=Nf w (hideAll s₁.heap [l]) [] [] default (fun _=>none) 0 []) (f:=.Cu) rfl Ae (by decide) (.cons ⟨l,rfl,rfl⟩ .nil:iy [l] [.loc 0] [.ref l]) rfl).go fun us pn k hb IM JO qQ jV ad3 om=>?_;refine kq (NU (by decide) (KX _ _ ho) Xb F.co (aR (·.2.2.2.2.2) c.fix) F.body hcd (hb s₁ KX _ _ _ _ ?_));refine qI (w:=w) (g:=hideAll s₁.heap [l]) (fs:=[]) (jO:=[]) (X:=[]) B .nil (by simp) F pre IM JO qQ jV ad3 om fun aY C' cells s' L' m' hC es f' a g hg' SG Mt hck=>⟨SG,codeAny_func ?_⟩;subst hC;haveI f:=f' (callerA.deeper aY) rfl;have K:Kx 9 _ (callerA.deeper aY):=⟨⟨B,rfl,(by decide:callerA.depth+1+10*9+10<recursionLimit),(by decide:callerA.units+3+100*9+50<cLine),_,_,f⟩,(by decide:callerA.depth+1+3+10*9+10<recursionLimit),(by decide:callerA.units+3+9+100*9+50<cLine)⟩;haveI q:=run.go (G:=X6 .Cu) (x:=mh .Cu) (ay c.cD) ⟨⟨K.b,fun _=>K,es.ok,es.co⟩,f,es⟩;rw[c.re]at q;refine q [l] s' a _ _ fun m X aV j8 fl mo g' a' hf=>?_;refine bE (hf) fun u JK hu=>?_;subst JK;cases hu;refine hQ j8 (fun b o Xg=>?_) (g'.o.trans g.o) a'.now.bare
 by_cases hbl:b=l
 ·subst hbl;refine kZ (a'.now.at h0 (iu g'.p rfl)) fun ob IG _ hOR=>?_;rw[hl]at Xg;cases Xg
  (refine aa IG (aa (show ob=_ from hOR) ?_);with_reducible rfl)
 ·exact a'.now.base (qA _ Xg (by simpa using hbl))
theorem ints_of:∀{ns:List Int}{vs:List Value},WellAll P h vs (ns.map fun i=>GK i)→∃xs:List (Int×Nat),xs.map (·.1)=ns∧vs=xs.map fun p=>Value.int p.1 p.2
 |[],_,.nil=>⟨[],rfl,rfl⟩
 |n::ns,_,.cons h1 h2=>by
  refine bE (ints_of h2) fun xs e1 fF=>?_;subst fF;cases h1;exact⟨(n,_)::xs,by simp[e1],rfl⟩
theorem LL(ns:List Int):ofPy (.list (ns.map qB))=.list (ns.map fun i=>GK i):=by
 haveI key:∀ns:List Int,ofPys (ns.map qB)=ns.map fun i=>GK i:=by
  intro ns
  induction ns with
  |nil=>rfl
  |cons n ns ih=>simp only[gC,ofPys,ofPy,ih]
 simp only[ofPy,key]
theorem ZO(x:Well P h (.ref l) (ofPy (.list (ns.map qB)))):∃(xs:List (Int×Nat))(n:Nat),xs.map (·.1)=ns∧h.get? l=some ⟨.type "list",none,.seq (xs.map fun p=>Value.int p.1 p.2).toArray n, #[]⟩:=by
 rw[LL]at x;cases x with
 |list ho ha=>
  refine bE (ints_of ha) fun xs e1 fF=>?_;subst fF;exact⟨xs,_,e1,ho⟩
theorem Rx(C:∀(xs:List (Int×Nat)) (n:Nat),xs.length≤63→Bc xs n){s₀ s₁:aB}{ns:List Int}(KX:(KK w).In s₁.heap)(T:AW Hd.vw LS mg mb s₁.heap)(hg:s₁.gens= #[])
  (w1:Well w.params s₁.heap (.ref l) (ofPy (.list (ns.map qB)))) (r0:Reads s₁.heap (.ref l) (.list (ns.map qB)) as) (hlo:∀a∈as,(a==sysModules)=false) (hlen:ns.length≤63):
  wpAny (model PySem.Challenge.rw_al0018_01.row.prog w) callerA (call (.ref 421) [.ref l])
   (fun v s'=>GoodWG PySem.Challenge.rw_al0018_01.row.claim (classAt s₀.heap) (O8 s₀.heap) [ofPy (.list (ns.map qB))] s₁ (.ok (.ret v)) s')
   (fun e s'=>GoodWG PySem.Challenge.rw_al0018_01.row.claim (classAt s₀.heap) (O8 s₀.heap) [ofPy (.list (ns.map qB))] s₁ (.error e) s') s₁:=by
 refine qU (ZO w1) fun xs n fF hl=>?_;subst fF;rw[bR]at hlen;haveI Yg:l≠1:=fun q=>by
  cases r0 with
  |list _ _ _ _=>
   haveI:=hlo _ (.head _);rw[q]at this;exact absurd this (by decide)
 refine LK KX T hl Yg (by refine aa hg ?_;intro y hy;simp at hy) (Nat.lt_of_le_of_lt hlen (by decide)) (C xs n hlen) fun s' k os bare=>?_;refine⟨.inl ⟨_,_,[],rfl,fun _=>rfl,ReadsW.bool true,?_,fun _=>⟨List.nodup_nil,fun _ hm=>(nx hm)⟩⟩,.of_keep k,os,bare⟩
 first|rfl|wrow_post
set_option maxRecDepth 100000 in
set_option maxHeartbeats 8000000 in
theorem foo(C:∀(xs:List (Int×Nat)) (n:Nat),xs.length≤63→qo.Bc xs n):PySem.Challenge.rw_al0018_01.Holds:=qo.Hd.top (by
 intro w s₀ s₁ mg mb G Y fa o pm cd doc dV kV ho hd hcd hD hmg hg args vals as ad4 ad5 hrd hwl hlo;haveI KX:=kIn_of Y;haveI ad6:=hlo;refine Ground.open G ?_;intro T B D TE TW
 wrow_args ad4 ad5 hrd hwl hlo
 x_fa T KX hmg
 refine qo.Rx C KX (topRead_of T) hg (by assumption) (by assumption) (fun a ha=>ad6 a ?_) ?_
 ·first|exact ha|exact dD _ ha
 ·omega)
end
section
open PySem PySem.W PyProof.Rows PySem.SeqAt PySem.Calls PySem.MeetsSeq Builtin
noncomputable def Ry:AV→Bool
 |.loc _=>false|.CB _=>false|_=>true
theorem Sq.small(q:Sq H l xs mk)(s:qo.small (mk ys)):ys.length<bQ:=by
 rcases q.2 with rfl|⟨d,rfl⟩<;>exact s
def An(H:Hp)(u:AV)(xs:List AV)(c:Bool):Prop:=∃bs,bh (fun y b=>CD 3 H y u b) xs bs∧bs.any id=c
def Rm(H:Hp)(u:AV)(xs ys:List AV):Prop:=∃j,CL H u xs j∧ys=xs.eraseIdx j
section
variable{n:Nat}{lm iZ gV:LM}{H H1 H2 H3 H4:Hp}{e a b t:E}{es:EL}{i l d r ep:Nat}{u v w x:AV}{vs xs ys:List AV}{c:Bool}{fs:List (Attr×AV)}{q:Attr}{k:vN}{kvs:List (AV×AV)}{mk:List AV→AO}{f:Fn}
theorem aT(h:Ry v=true:=by rfl):Ev n (.lit v) lm H v H:=by
 cases v<;>first|(cases h;done)|exact aaK|exact aaL|exact P1|exact Zv|exact adv
theorem oq(h:H[l]? =some (.inst k d)):Ob H l d k:=.inl h
theorem JQ(h:H[l]? =some (.dom xs d)):Ob H l d .domain:=.inr ⟨rfl,xs,h⟩
theorem fQ(h:Ev n a lm H (.loc l) H1)(o:Ob H1 l d k)(z:H1[d]? =some (.attrs fs))(g:fget q fs=some v):Ev n (.attr a q) lm H v H1:=Zw h (YT o z g)
theorem Nt(h:Ev n a lm H (.loc l) H1)(o:Sv H1 l xs)(p:Pu (.list xs) H1 w H3):Ev n (.all a) lm H w H3:=aaO h o p
theorem BI(h:H[l]? =some (.list xs)):Sv H l xs:=(yW h).v
theorem Qh(h:H[l]? =some (.dom xs d)):Sv H l xs:=(W8 h).v
theorem gG(h:H[l]? =some (.list xs))(s:pO m=true):Mk l m H .seq:=Uo h s
theorem Nu(h:H[l]? =some (.dom xs d))(z:H[d]? =some (.attrs fs))(s:(pO m&&noAttr (oM m))=true):Mk l m H .seq:=Y0 h z s
theorem xd(h:H[l]? =some (.dict kvs ep))(s:rS m=true):Mk l m H .dict:=Up h s
theorem ir(h:Sq H l xs mk)(p:Pt l (mk (xs++[v])) H H1):Mc n .seq l .append [v] H .none H1:=p.e fun s=>QH h (h.small s)
theorem Nv(h:Sq H l (xs++[v]) mk)(p:Pt l (mk xs) H H1):Mc n .seq l .pop [] H v H1:=p.e fun _=>aaj h
theorem DJ(h:Sq H l xs mk)(z:H[r]? =some (.list ys))(ne:r≠l)(p:Pt l (mk (xs++ys)) H H1):Mc n .seq l .extend [.loc r] H .none H1:=p.e fun s=>QI h z (h.small s)
theorem xG(h:Sq H l xs mk)(z:Rm H v xs ys)(p:Pt l (mk ys) H H1):Mc n .seq l .remove [v] H .none H1:=p.e fun _=>by
 refine bE (z) fun j f fF=>?_;subst fF;exact QJ h f
theorem Qi(h:H[l]? =some (.dict kvs ep))(p:Pu (.dict kvs 0) H v H1):Mc n .dict l .copy [] H v H1:=p.e fun _=>Y3 h
theorem RA(h:H[l]? =some (.dict kvs ep))(p:Pu (.jB l) H v H1):Mc n .dict l .values [] H v H1:=p.e fun _=>m_values h
theorem Vf(h:H[l]? =some (.dict kvs ep))(p:Pt l (.dict [] (ep+1)) H H1):Mc n .dict l .clear [] H .none H1:=p.e fun _=>Ur h
theorem zY(fs:List Fn):noAttr (oM (.fn fs))=true:=(by cases fs.headD .Cu<;>decide+kernel:noAttr (abV (fs.headD .Cu))=true)
theorem qd(h:Ev n a lm H (.loc l) H1)(o:Ob H1 l d k)(z:H1[d]? =some (.attrs fs))(hf:Has k (.fn fs') f)(g:CF n es lm H1 vs H2)(y:Cf n f (.loc l::vs) H2 v H3):Ev n (.cQ a (.fn fs') es) lm H v H3:=d9 h (M3 o z hf (zY fs')) g (ac4 y)
theorem qm{x:Ex}(h:Ev n a lm H (.loc l) H1)(o:Ob H1 l d k)(z:H1[d]? =some (.attrs fs))(hf:Has k (.fn fs') f)(g:CF n es lm H1 vs H2)(y:JL n f (.loc l::vs) H2 x H3):Evx n (.cQ a (.fn fs') es) lm H x H3:=Zy h (M3 o z hf (zY fs')) g (aal y)
theorem nE(h:H[l]? =some (.list xs)):Tr (.loc l) H (!xs.isEmpty):=GQ (yW h).v
theorem Be(h:H[l]? =some (.dom xs d)):Tr (.loc l) H (!xs.isEmpty):=GQ (W8 h).v
theorem ZP(h:H[l]? =some (.arg zs m)):Tr (.loc l) H (!zs.isEmpty):=by
 refine aa (show(!zs.isEmpty)= !(vQ zs).isEmpty by cases zs<;>rfl) ?_
 exact GQ (PB h)
theorem acm(h:decide (j≠0)=c):Tr (.int j) H c:=h▸YQ
theorem pS(h:H[l]? =some (.list xs)):Ln (.loc l) H xs.length:=PC (yW h)
theorem Hx(h:H[l]? =some (.dom xs d)):Ln (.loc l) H xs.length:=PC (W8 h)
theorem tT(h:Cl n (.glob .list) [v] H w H1):Cl n (.glob .list) [v] H w H1:=h
theorem I4(h:H[l]? =some (.list xs))(p:Pu (.list xs) H v H1):Cl n (.glob .list) [.loc l] H v H1:=p.e fun _=>Uy h
theorem abn(h:H[l]? =some (.dom xs d))(p:Pu (.list xs) H v H1):Cl n (.glob .list) [.loc l] H v H1:=p.e fun _=>Zb h
theorem abo(h:H[l]? =some (.dict kvs ep))(p:Pu (.list (kvs.map (·.1))) H v H1):Cl n (.glob .list) [.loc l] H v H1:=p.e fun s=>Uz h (by haveI s:(kvs.map (·.1)).length<bQ:=s;rwa [bR]at s)
theorem Vg(h:H[l]? =some (.list xs))(p:Pu (.tuple xs) H v H1):Cl n (.glob .tuple) [.loc l] H v H1:=p.e fun _=>UA h
theorem Qj(h:Cl n (.glob .isinstance) [v,w] H x H1):Cl n (.glob .isinstance) [v,w] H x H1:=h
theorem isI(h:H[l]? =some (.inst k d))(s:GL k k'=true):Cl n (.glob .isinstance) [.loc l,.glob (.cls k')] H (.bool true) H:=Y7 h s
theorem bL(h:H[l]? =some (.list xs)):Wk H l xs:=.list h
theorem vI(h:H[l]? =some (.dict kvs ep)):Wk H l (kvs.map (·.1)):=.dict kvs ep h rfl
theorem Vh(h:H[l]? =some (.jB d))(z:H[d]? =some (.dict kvs ep)):Wk H l (kvs.map (·.2)):=.vals d kvs ep h z rfl
theorem WT(q:Sq H l xs mk)(h:bh (fun y b=>CD 3 H y u b) xs bs):Ct (.loc l) u H (bs.any id):=⟨fun{C A ρ _ v'} K x y=>
 VR.eF x fun a ha s n _ _ hR=>n.seq q ha fun c d vs k so hv hlen _=>by
  refine BZ (bs:=bs) (n.jl K.B).X so ?_ (hR ρ s _ (.refl ρ s) n rfl);haveI hu:A.in1.units+3<cLine:=Nat.lt_of_le_of_lt (Nat.le_of_eq (Nat.succ_add_eq_add_succ ..)) K.hu;haveI key:∀(ys:List AV)(bs:List Bool),bh (fun y b=>CD 3 H y u b) ys bs→∀vs:List Value,bh (VR ρ) ys vs→bh (fun b v=>iQ A.in1 s v v' b) bs vs:=by
   intro ys bs h
   induction h with
   |nil=>intro vs hv;cases hv;exact .nil
   |cons e _ ih=>intro vs hv;cases hv with|cons a r=>exact .cons (e n a y hu) (ih _ r)
  exact key _ _ h _ hv⟩
theorem in_dict(h:H[l]? =some (.dict kvs ep))(z:keyOk u=true):Ct (.loc l) u H (dJ u kvs).isSome:=T7 h z
theorem in_list(h:H[l]? =some (.list xs))(z:An H u xs c):Ct (.loc l) u H c:=by obtain⟨bs,z,rfl⟩:=z;exact WT (yW h) z
theorem ZQ(h:H[l]? =some (.dom xs d))(z:An H u xs c):Ct (.loc l) u H c:=by obtain⟨bs,z,rfl⟩:=z;exact WT (W8 h) z
theorem Jq(o:Ob H l d k)(z:H[d]? =some (.attrs fs))(p:Pt d (.attrs (vR q v fs)) H H1):Sa (.loc l) q v H H1:=p.e fun _=>YV o z
theorem rN(h:H[l]? =some (.inst k d))(z:H[d]? =some (.attrs fs))(p:Pt d (.attrs (vR q v fs)) H H1):Sa (.loc l) q v H H1:=Jq (oq h) z p
theorem Qk(h:H[l]? =some (.dom xs d))(z:H[d]? =some (.attrs fs))(p:Pt d (.attrs (vR q v fs)) H H1):Sa (.loc l) q v H H1:=Jq (JQ h) z p
theorem J8(h:H[l]? =some (.dict kvs ep))(z:keyOk u=true)(p:Pt l (.dict (dput u v kvs) (if(dJ u kvs).isSome then ep else ep+1)) H H1):Ss (.loc l) u v H H1:=p.e fun s=>Uk h z s
theorem ad7(h:H[l]? =some (.dict kvs ep))(z:keyOk u=true∧(dJ u kvs).isSome)(p:Pt l (.dict (yx u kvs) (ep+1)) H H1):qo.Ds (.loc l) u H H1:=p.e fun _=>Ul h z.1 z.2
theorem dm(b:Bt H lm tg v iZ)(h:Bd iZ H .next gV H2)(z:cD H2)(q:Tn Bd tg cD xs gV H2 rs lm3 H3):Tn Bd tg cD (v::xs) lm H rs lm3 H3:=.next b h z q
theorem Hy(b:Bt H lm tg v iZ)(h:Bd iZ H .brk gV H2):Tn Bd tg cD (v::xs) lm H (some .next) gV H2:=.stop b h rfl
theorem Hz(b:Bt H lm tg v iZ)(h:Bd iZ H (.ret u) gV H2):Tn Bd tg cD (v::xs) lm H (some (.ret u)) gV H2:=.stop b h rfl
theorem Ql(b:Bt H lm tg v iZ)(h:Bd iZ H (.exc y) gV H2):Tn Bd tg cD (v::xs) lm H (some (.exc y)) gV H2:=.stop b h rfl
theorem vJ(h:T lm H true H1)(b:Bd lm H1 .next gV H2)(q:Lp T Bd m gV H2 rs lm3 H3):Lp T Bd (m+1) lm H rs lm3 H3:=.next h b q
theorem Qm(h:T lm H true H1)(b:Bd lm H1 .brk gV H2):Lp T Bd (m+1) lm H (some .next) gV H2:=.stop h b rfl
theorem ZR(h:T lm H true H1)(b:Bd lm H1 (.ret u) gV H2):Lp T Bd (m+1) lm H (some (.ret u)) gV H2:=.stop h b rfl
theorem Vi(h:T lm H false H1):Lp T Bd (m+1) lm H none lm H1:=.done h
theorem Vj(h:Ev n a lm H (.loc l) H1)(z:Ev n b lm H1 (.loc q') H2)(ho:H2[l]? =some (.dom [] d))(hq:Src H2 q' ys)(lU:l≠q')(p:Pt l (.dom ys d) H2 H3):Ev n (.o9 a b) lm H .none H3:=p.e fun s=>UQ h z ho hq lU s
theorem abp(p1:Pu (.attrs []) H (.loc d) H1)(p2:Pu (.dom [] d) H1 (.loc y) H2)(h:Cf n .ru [.loc y,x] H2 .none H3):Cl n (.glob (.cls .domain)) [x] H (.loc y) H3:=by
 obtain⟨e1,rfl,_⟩:=p1;cases e1;obtain⟨e2,rfl,_⟩:=p2;rw[bU]at e2;cases e2;exact aar h
theorem Nx(hc:Jf k=some f)(p1:Pu (.attrs []) H (.loc d) H1)(p2:Pu (.inst k d) H1 (.loc y) H2)(h:Cf n f (.loc y::vs) H2 .none H3):Cl n (.glob (.cls k)) vs H (.loc y) H3:=by
 obtain⟨e1,rfl,_⟩:=p1;cases e1;obtain⟨e2,rfl,_⟩:=p2;rw[bU]at e2;cases e2;exact aaq hc h
theorem Jr(hc:k=.solver∨k=.dN)(p1:Pu (.attrs []) H (.loc d) H1)(p2:Pu (.inst k d) H1 (.loc y) H2):Cl n (.glob (.cls k)) [] H (.loc y) H2:=by
 obtain⟨e1,rfl,_⟩:=p1;cases e1;obtain⟨e2,rfl,_⟩:=p2;rw[bU]at e2;cases e2;exact UD hc
theorem Pu.loc(p:Pu o H (.loc l) H1):l=H.length:=AV.loc.inj p.v
theorem oW(h:H[l]? =some (.dict kvs ep))(z:dJ (.str s) kvs=some v):Sb (.loc l) (.str s) H v:=Ub h rfl z
theorem fM{t:Nat}:Bt H lm (.one t) v (lm.set t (some v)):=.one
theorem xg(h:H[l]? =some (.tuple vs))(z:tR lm is vs=some iZ):Bt H lm (.many is) (.loc l) iZ:=.many h z
end
end
open PySem (Str)
noncomputable def fset{α:Type}(f:Str→α)(k:Str)(v:α):Str→α:=fun y=>if y=k then v else f y
theorem aU:fset f k v k=v:=aF rfl
theorem aP(h:y≠k):fset f k v y=f y:=au h
structure Dz where
 bS:Str→List Int
 eN:Str→List Int
 fT:Str→List Nat
noncomputable def Dz.push(σ:Dz)(y:Str):Dz:={σ with fT:=fset σ.fT y (σ.fT y++[(σ.bS y).length])}
noncomputable def Dz.pop(σ:Dz)(y:Str):Dz:=
 let k:=(σ.fT y).getLast?.getD 0 -(σ.bS y).length
 let h:=σ.eN y
 {bS:=fset σ.bS y (σ.bS y++h.drop (h.length -k)),eN:=fset σ.eN y (h.take (h.length -k)),fT:=fset σ.fT y (σ.fT y).dropLast}
noncomputable def Dz.hide(σ:Dz)(y:Str)(v:Int):Dz:={σ with bS:=fset σ.bS y ((σ.bS y).erase v),eN:=fset σ.eN y (σ.eN y++[v])}
noncomputable def dK(k:Str):List (Str×Int)→Option Int
 |[]=>none
 |(k',v)::r=>if k'=k then some v else dK k r
noncomputable def seenOf(asg:List (Str×Int)):List Str→List Int→Option (List Int)
 |[],seen=>some seen
 |p::W,seen=>match dK p asg with
  |none=>seenOf asg W seen
  |some a=>if a∈seen then none else seenOf asg W (seen++[a])
noncomputable def gU(y:Str):List Int→Dz→Bool×Dz
 |[],σ=>(true,σ)
 |v::vs,σ=>if v∈σ.bS y then(if(σ.hide y v).bS y=[]then(false,σ.hide y v)else gU y vs (σ.hide y v))else gU y vs σ
noncomputable def ow(asg:List (Str×Int))(seen:List Int):List Str→Dz→Bool×Dz
 |[],σ=>(true,σ)
 |y::W,σ=>if(dK y asg).isSome then ow asg seen W σ else match gU y seen σ with
  |(true,ck)=>ow asg seen W ck
  |(false,ck)=>(false,ck)
noncomputable def aC(asg:List (Str×Int))(W:List Str)(fwd:Bool)(σ:Dz):Bool×Dz:=match seenOf asg W []with
 |none=>(false,σ)
 |some seen=>if fwd then ow asg seen W σ else(true,σ)
noncomputable def lE(asg:List (Str×Int))(fwd:Bool):List (List Str)→Dz→Bool×Dz
 |[],σ=>(true,σ)
 |W::r,σ=>match aC asg W fwd σ with
  |(true,ck)=>lE asg fwd r ck
  |(false,ck)=>(false,ck)
def Apt(s:Str→Int)(W:List Str):Prop:=∀p∈W,∀q∈W,p≠q→s p≠s q
def Ext(asg:List (Str×Int))(s:Str→Int):Prop:=∀k a,dK k asg=some a→s k=a
theorem Bf(h:a=k):dK k ((a,v)::r)=some v:=aF h
theorem xh(h:a≠k):dK k ((a,v)::r)=dK k r:=au h
noncomputable def WU(asg:List (Str×Int))(W:List Str)(seen:List Int)(x:Option Int):Option (List Int):=match x with
 |none=>seenOf asg W seen
 |some a=>if a∈seen then none else seenOf asg W (seen++[a])
theorem Bg(h:dK p asg=x):seenOf asg (p::W) seen=WU asg W seen x:=aR (WU asg W seen) h
theorem Er(hs:Ext asg s):∀{W:List Str}{seen:List Int}{P:List Str},(∀v∈seen,∃p∈P,s p=v)→(P++W).Nodup→Apt s (P++W)→seenOf asg W seen≠none:=by
 intro W
 induction W with
 |nil=>exact fun _ _ _=>(fun h_=>no1 h_)
 |cons p W ih=>
  intro seen P h nd ap;have e:P++p::W=(P++[p])++W:=List.append_cons ..;cases q:dK p asg with
  |none=>exact fun z=>ih (P:=P++[p]) (fun v hv=>(h v hv).imp fun r hr=>⟨dD _ hr.1,hr.2⟩) (e▸nd) (e▸ap) ((Bg q).symm.trans z)
  |some a=>
   refine fun z=>ih (seen:=seen++[a]) (P:=P++[p]) (fun v hv=>?_) (e▸nd) (e▸ap) ((au fun hm=>?_).symm.trans ((Bg q).symm.trans z))
   ·rcases dc.mp hv with hv|hv
    ·exact(h v hv).imp fun r hr=>⟨dD _ hr.1,hr.2⟩
    ·exact⟨p,cU _ (.head _),bO.mp hv▸hs p a q⟩
   ·refine bE (h a hm) fun r hr er=>?_;exact ap r (dD _ hr) p (cU _ cI) (fun z=>(oH.mp nd).2.2 r hr p cI z) (er.trans (hs p a q).symm)
def Dis(asg:List (Str×Int))(W:List Str):Prop:=∀p∈W,∀q∈W,p≠q→∀v,dK p asg=some v→dK q asg≠some v
theorem Es:∀{W:List Str}{seen out:List Int},seenOf asg W seen=some out→(∀v,v∈out↔v∈seen∨∃p∈W,dK p asg=some v)∧
  (∀p∈W,∀v,dK p asg=some v→v∉seen)∧Dis asg W:=by
 intro W
 induction W with
 |nil=>
  intro seen out e;cases e;exact⟨fun v=>⟨.inl,fun h=>h.elim id fun h=>h.elim fun p h=>nx h.1⟩,MB,MB⟩
 |cons p W ih=>
  intro seen out e;cases q:dK p asg with
  |none=>
   have I:=ih ((Bg q).symm.trans e);have ne:∀{r:Str}{v:Int},r∈p::W→dK r asg=some v→r∈W:=fun hr hv=>(bw.mp hr).resolve_left (fun z=>by rw[z,q]at hv;cases hv);exact⟨fun v=>(I.1 v).trans (or_congr_right ⟨fun h=>h.imp fun r h=>⟨.tail _ h.1,h.2⟩,fun h=>h.imp fun r h=>⟨ne h.1 h.2,h.2⟩⟩),fun r hr v hv=>I.2.1 r (ne hr hv) v hv,fun r hr r' JM n v hv EI=>I.2.2 r (ne hr hv) r' (ne JM EI) n v hv EI⟩
  |some a=>
   replace e:=(Bg q).symm.trans e
   by_cases hm:a∈seen
   ·exact Cv ((aF hm).symm.trans e)
   ·have I:=ih ((au hm).symm.trans e);have S8:∀{r},r∈W→∀{v},dK r asg=some v→dK p asg≠some v:=fun hr v hv h=>I.2.1 _ hr _ hv (cU _ (bO.mpr (kP (h.symm.trans q))));refine⟨fun v=>?_,fun r hr v hv=>?_,fun r hr r' JM n v hv EI=>?_⟩
    ·refine(I.1 v).trans ⟨fun h=>?_,fun h=>?_⟩
     ·refine h.elim (fun h=>(dc.mp h).imp id fun h=>⟨p,.head _,(by rw[bO.mp h];exact q)⟩) fun h=>.inr (h.imp fun r h=>⟨.tail _ h.1,h.2⟩)
     ·refine h.elim (fun h=>.inl (dD _ h)) fun h=>bE h fun r hr hv=>?_;rcases bw.mp hr with e|hr
      ·exact .inl (cU _ (bO.mpr (kP (hv.symm.trans (e▸q)))))
      ·exact .inr ⟨r,hr,hv⟩
    ·rcases bw.mp hr with e|hr
     ·exact(kP (q.symm.trans (e▸hv)))▸hm
     ·exact fun hs=>I.2.1 r hr v hv (dD _ hs)
    ·rcases bw.mp hr with e1|m1<;>rcases bw.mp JM with e2|m2
     ·exact n (e1.trans e2.symm)
     ·exact S8 m2 EI (e1▸hv)
     ·exact S8 m1 hv (e2▸EI)
     ·exact I.2.2 r m1 r' m2 n v hv EI
set_option genCtorIdx false in
inductive Ro where
 |a (n:Nat)|b (n:Nat) (x:Str)|d (n i:Nat)|v (x:Str)|w (x:Str)|h (x:Str)|s (x:Str)|z (l:Nat)
noncomputable def Ro.ctorIdx(x:Ro):Nat:=Ro.casesOn x (fun _=>0) (fun _ _=>1) (fun _ _=>2) (fun _=>3) (fun _=>4) (fun _=>5) (fun _=>6) (fun _=>7)
noncomputable def Ro.ri(x:Ro):Nat:=Ro.casesOn x (fun n=>n) (fun n _=>n) (fun n _=>n) (fun _=>0) (fun _=>0) (fun _=>0) (fun _=>0) (fun l=>l)
noncomputable def Ro.rj(x:Ro):Nat:=Ro.casesOn x (fun _=>0) (fun _ _=>0) (fun _ i=>i) (fun _=>0) (fun _=>0) (fun _=>0) (fun _=>0) (fun _=>0)
noncomputable def Ro.rx(x:Ro):Str:=Ro.casesOn x (fun _=>⟨#[]⟩) (fun _ x=>x) (fun _ _=>⟨#[]⟩) (fun x=>x) (fun x=>x) (fun x=>x) (fun x=>x) (fun _=>⟨#[]⟩)
noncomputable def Ro.at(n i j:Nat)(x:Str):Ro:=[.a i,.b i x,.d i j,.v x,.w x,.h x,.s x,.z i].getD n (.z i)
theorem Ro.fj(x:Ro):Ro.at x.ctorIdx x.ri x.rj x.rx=x:=by cases x<;>rfl
noncomputable instance iRo:DecidableEq Ro:=fun a b=>if h:(a.ctorIdx,a.ri,a.rj,a.rx)=(b.ctorIdx,b.ri,b.rj,b.rx)then isTrue ((a.fj.symm.trans (aR (fun p=>Ro.at p.1 p.2.1 p.2.2.1 p.2.2.2) h)).trans b.fj)else isFalse fun e=>h (e▸rfl)
abbrev Cm:=Ro→Option (Nat×AO)
structure Rep(c:Cm)(H:Hp):Prop where
 get:∀{r:Ro}{l:Nat}{o:AO},c r=some (l,o)→H[l]? =some o
 inj:∀{r r':Ro}{l:Nat}{o o':AO},c r=some (l,o)→c r'=some (l,o')→r=r'
 zf:∀{k l:Nat}{o:AO},c (.z k)=some (l,o)→l=k
noncomputable def Ro.nz:Ro→Bool
 |.z _=>false|_=>true
noncomputable def Cm.up(c:Cm)(r:Ro)(p:Nat×AO):Cm:=fun r'=>if r'=r then some p else c r'
theorem up_eq{c:Cm}:c.up r p r=some p:=aF rfl
theorem aX{c:Cm}(h:r'≠r):c.up r p r'=c r':=au h
theorem aL{c:Cm}(h:c r'=q)(n:decide (r'=r)=false):c.up r p r'=q:=(aX (of_decide_eq_false n)).trans h
section
variable{c c':Cm}{H:Hp}{r:Ro}{l:Nat}{o o':AO}
theorem Rep.lt(R:Rep c H)(h:c r=some (l,o)):l<H.length:=(fU.mp (R.get h)).1
theorem Rep.Yh(R:Rep c H)(h:c r=some (l,o)):Rep (c.up r (l,o')) (H.set l o'):=by
 refine⟨fun{v9 l₁ n7} q=>?_,fun{v9 Yi l₁ n7 vX} q q'=>?_,fun{k l₁ n7} q=>?_⟩
 ·by_cases e:v9=r
  ·subst e;rw[up_eq]at q;cases q;simp[R.lt h]
  ·rw[aX e]at q;rw[gZ]
   ·exact R.get q
   ·rintro rfl;exact e (R.inj q h)
 ·have key:∀{v9 n7},c.up r (l,o') v9=some (l₁,n7)→∃vX,c v9=some (l₁,vX):=fun{v9 n7} q=>by
   by_cases e:v9=r
   ·subst e;rw[up_eq]at q;cases q;exact⟨_,h⟩
   ·rw[aX e]at q;exact⟨_,q⟩
  refine eY (key q) fun _ h1=>?_;refine eY (key q') fun _ h2=>?_;exact R.inj h1 h2
 ·by_cases e:Ro.z k=r
  ·subst e;rw[up_eq]at q;cases q;exact R.zf h
  ·rw[aX e]at q;exact R.zf q
theorem Rep.grow(R:Rep c H):Rep c (H++[o]):=⟨fun q=>(oF (R.lt q)).trans (R.get q),R.inj,R.zf⟩
theorem Rep.WV(R:Rep c H)(n:∀k,r=.z k→k=H.length):Rep (c.up r (H.length,o)) (H++[o]):=by
 refine⟨fun{v9 l₁ n7} q=>?_,fun{v9 Yi l₁ n7 vX} q q'=>?_,fun{k l₁ n7} q=>?_⟩
 ·by_cases e:v9=r
  ·subst e;rw[up_eq]at q;cases q;simp
  ·rw[aX e]at q;exact R.grow.get q
 ·by_cases e:v9=r
  ·by_cases e':Yi=r
   ·(refine aa e (aa e' ?_);with_reducible rfl)
   ·subst e;rw[up_eq]at q;rw[aX e']at q';cases q;exact k9 (Nat.lt_irrefl _ (R.lt q'))
  ·by_cases e':Yi=r
   ·subst e';rw[up_eq]at q';rw[aX e]at q;cases q';exact k9 (Nat.lt_irrefl _ (R.lt q))
   ·rw[aX e]at q;rw[aX e']at q';exact R.inj q q'
 ·by_cases e:Ro.z k=r
  ·rw[e,up_eq]at q;cases q;exact(n k e.symm).symm
  ·rw[aX e]at q;exact R.zf q
def Gr(H H':Hp):Prop:=∀{l:Nat}{o:AO},H[l]? =some o→H'[l]? =some o
theorem Rep.new(R:Rep c H)(r:Ro)(n:r.nz=true)(o:AO)(s:small o){Γ:Prop}(κ:∀H' l,Pu o H (.loc l) H'→Rep (c.up r (l,o)) H'→Gr H H'→Γ):Γ:=
 κ _ _ (rK s) (R.WV (fun k e=>by rw[e]at n;cases n)) (fun q=>(oF (fU.mp q).1).trans q)
theorem Rep.TH(R:Rep c H)(o:AO)(s:small o){Γ:Prop}(κ:∀H' l,Pu o H (.loc l) H'→Rep (c.up (.z l) (l,o)) H'→Gr H H'→c (.z l)=none→Γ):Γ:=
 κ _ _ (rK s) (R.WV (fun k e=>(by cases e;rfl))) (fun q=>(oF (fU.mp q).1).trans q) (by
  cases q:c (.z H.length)with
  |none=>rfl
  |some p=>
   haveI h:c (.z H.length)=some (p.1,p.2):=q;haveI:=R.lt h;rw[R.zf h]at this;exact k9 (Nat.lt_irrefl _ this))
theorem Rep.tmp(R:Rep c H)(o:AO)(s:small o){Γ:Prop}(κ:∀H' l,Pu o H (.loc l) H'→Rep c H'→Gr H H'→H'[l]? =some o→(∀{r p},c r=some p→l≠p.1)→Γ):Γ:=
 κ _ _ (rK s) R.grow (fun q=>(oF (fU.mp q).1).trans q) (FQ ..) (fun{r p} h q=>Nat.lt_irrefl _ (Nat.lt_of_lt_of_eq (R.lt (r:=r) (l:=p.1) (o:=p.2) h) q))
theorem Rep.str(R:Rep c H)(h:c r=some (l,o))(o':AO)(s:small o'){Γ:Prop}(κ:∀H',Pt l o' H H'→Rep (c.up r (l,o')) H'→Γ):Γ:=κ _ (Hj s) (R.Yh h)
theorem Rep.le(R:Rep c H)(h:∀r p,c' r=some p→c r=some p):Rep c' H:=⟨fun q=>R.get (h _ _ q),fun q q'=>R.inj (h _ _ q) (h _ _ q'),fun q=>R.zf (h _ _ q)⟩
end
noncomputable def aO(xs:List Int):List AV:=xs.map AV.int
noncomputable def nats(xs:List Nat):List AV:=xs.map fun(n:Nat)=>AV.int (n:Int)
noncomputable def Dz.sv(σ:Dz)(x:Str)(ys:List Int):Dz:=⟨fset σ.bS x ys,σ.eN,σ.fT⟩
noncomputable def Dz.sh(σ:Dz)(x:Str)(ys:List Int):Dz:=⟨σ.bS,fset σ.eN x ys,σ.fT⟩
noncomputable def Dz.ss(σ:Dz)(x:Str)(ys:List Nat):Dz:=⟨σ.bS,σ.eN,fset σ.fT x ys⟩
structure DL where
 d:Str→Nat
 a:Str→Nat
 h:Str→Nat
 s:Str→Nat
noncomputable def mix(L:DL)(V:List Str)(σ:Dz)(c:Cm):Cm
 |.v x=>if x∈V then some (L.d x,.dom (aO (σ.bS x)) (L.a x))else none
 |.w x=>if x∈V then some (L.a x,.attrs [(.hidden,.loc (L.h x)),(.fh,.loc (L.s x))])else none
 |.h x=>if x∈V then some (L.h x,.list (aO (σ.eN x)))else none
 |.s x=>if x∈V then some (L.s x,.list (nats (σ.fT x)))else none
 |.a n=>c (.a n)
 |.b n x=>c (.b n x)
 |.d n i=>c (.d n i)
 |.z l=>c (.z l)
noncomputable def Ro.nd:Ro→Bool
 |.v _=>false|.w _=>false|.h _=>false|.s _=>false|_=>true
theorem dH(h:ys.length<bQ):small (.list (aO ys)):=by show(ys.map _).length<bQ;rw[bR];exact h
theorem Et(h:ys.length<bQ):small (.dom (aO ys) a):=by show(ys.map _).length<bQ;rw[bR];exact h
theorem nH(h:ys.length<bQ):small (.list (nats ys)):=by show(ys.map _).length<bQ;rw[bR];exact h
theorem ints_app(xs ys:List Int):aO (xs++ys)=aO xs++aO ys:=ic
theorem ints_snoc(xs:List Int)(v:Int):aO xs++[.int v]=aO (xs++[v]):=(ints_app xs [v]).symm
theorem zZ(xs:List Nat)(v:Nat):nats xs++[.int (v:Int)]=nats (xs++[v]):=(ic (l₂:=[v])).symm
theorem fR(xs:List Int):(aO xs).length=xs.length:=bR _
section
variable{L:DL}{V:List Str}{σ:Dz}{c:Cm}{H:Hp}{r:Ro}{l:Nat}{o o':AO}{x:Str}{n:Nat}
theorem ny{p:Nat×AO}(h:r.nd=true):∀r' q,mix L V σ (c.up r p) r'=some q→(mix L V σ c).up r p r'=some q:=by
 intro r' q e
 by_cases z:r'=r
 ·subst z;refine aa up_eq ?_;cases r'<;>first|(cases h;done)|(exact ez e up_eq.symm)
 ·refine aa (aX z) ?_;cases r'<;>first|exact e|(exact ez e ((aX z).symm))
theorem Rep.jM(R:Rep (mix L V σ c) H)(h:c r=some (l,o))(n:r.nd=true)(o':AO)(s:small o'){Γ:Prop}(κ:∀H',Pt l o' H H'→Rep (mix L V σ (c.up r (l,o'))) H'→Γ):Γ:=
 κ _ (Hj s) ((R.Yh (r:=r) (o:=o) (by cases r<;>first|exact h|cases n)).le (ny n))
theorem Rep.fY(R:Rep (mix L V σ c) H)(r:Ro)(n:(r.nd&&r.nz)=true)(o:AO)(s:small o){Γ:Prop}(κ:∀H' l,Pu o H (.loc l) H'→Rep (mix L V σ (c.up r (l,o))) H'→Gr H H'→Γ):Γ:=
 R.new r (by rw[uA]at n;exact n.2) o s fun H' l a b g=>κ H' l a (b.le (ny (by rw[uA]at n;exact n.1))) g
theorem Rep.jF(R:Rep (mix L V σ c) H)(o:AO)(s:small o){Γ:Prop}(κ:∀H' l,Pu o H (.loc l) H'→Rep (mix L V σ (c.up (.z l) (l,o))) H'→Gr H H'→c (.z l)=none→Γ):Γ:=
 R.TH o s fun H' l a b g z=>κ H' l a (b.le (ny rfl)) g z
theorem Rep.leM(R:Rep (mix L V σ c) H)(h:∀r p,r.nd=true→c' r=some p→c r=some p):Rep (mix L V σ c') H:=R.le fun r p q=>by
 cases r<;>first|exact q|exact h _ _ rfl q
theorem Rep.gM(R:Rep (mix L V σ c) H)(n:r.nd=true)(h:c r=some (l,o)):H[l]? =some o:=R.get (r:=r) (by cases r<;>first|exact h|cases n)
theorem mV(R:Rep (mix L V σ c) H)(h:x∈V):H[L.d x]? =some (.dom (aO (σ.bS x)) (L.a x)):=R.get (r:=.v x) (aF h)
theorem mW(R:Rep (mix L V σ c) H)(h:x∈V):H[L.a x]? =some (.attrs [(.hidden,.loc (L.h x)),(.fh,.loc (L.s x))]):=R.get (r:=.w x) (aF h)
theorem mH(R:Rep (mix L V σ c) H)(h:x∈V):H[L.h x]? =some (.list (aO (σ.eN x))):=R.get (r:=.h x) (aF h)
theorem mS(R:Rep (mix L V σ c) H)(h:x∈V):H[L.s x]? =some (.list (nats (σ.fT x))):=R.get (r:=.s x) (aF h)
theorem z6:fset f x (f x)=f:=funext fun y=>by
 by_cases e:y=x
 ·(refine aa e (aa aU ?_);with_reducible rfl)
 ·(refine aa (aP e) ?_;with_reducible rfl)
theorem HA{ck:Dz}(R:Rep (mix L V σ c) H)(h:mix L V σ c r=some (l,o))(h':mix L V ck c r=some (l,o'))(k:∀r',r'≠r→mix L V ck c r'=mix L V σ c r')(s:small o'){Γ:Prop}(κ:∀H',Pt l o' H H'→Rep (mix L V ck c) H'→Γ):Γ:=
 κ _ (Hj s) ((R.Yh h).le fun r' q e=>by
  by_cases z:r'=r
  ·rw[z]at e ⊢;(refine aa up_eq (ez e ?_);refine aa h' ?_;with_reducible rfl)
  ·(refine aa (aX z) (ez (k r' z) ?_));exact e)
theorem Yj(R:Rep (mix L V σ c) H)(h:x∈V)(ys:List Int)(s:ys.length<bQ){Γ:Prop}(κ:∀H',Pt (L.d x) (.dom (aO ys) (L.a x)) H H'→Rep (mix L V (σ.sv x ys) c) H'→Γ):Γ:=
 HA (r:=.v x) (o:=.dom (aO (σ.bS x)) (L.a x)) R (aF h) ((aF h).trans (by(refine aa (show(σ.sv x ys).bS x=ys from aU) ?_;with_reducible rfl))) (fun r z=>by
  cases r<;>first|rfl|(show(if _ then some (_,AO.dom (aO (fset σ.bS x ys _)) _)else none)=_;refine aa (aP fun q=>z (by rw[q])) ?_;rfl)) (Et s) κ
theorem Yk(R:Rep (mix L V σ c) H)(h:x∈V)(ys:List Int)(s:ys.length<bQ){Γ:Prop}(κ:∀H',Pt (L.h x) (.list (aO ys)) H H'→Rep (mix L V (σ.sh x ys) c) H'→Γ):Γ:=
 HA (r:=.h x) (o:=.list (aO (σ.eN x))) R (aF h) ((aF h).trans (by(refine aa (show(σ.sh x ys).eN x=ys from aU) ?_;with_reducible rfl))) (fun r z=>by
  cases r<;>first|rfl|(show(if _ then some (_,AO.list (aO (fset σ.eN x ys _)))else none)=_;refine aa (aP fun q=>z (by rw[q])) ?_;rfl)) (dH s) κ
theorem Yl(R:Rep (mix L V σ c) H)(h:x∈V)(ys:List Nat)(s:ys.length<bQ){Γ:Prop}(κ:∀H',Pt (L.s x) (.list (nats ys)) H H'→Rep (mix L V (σ.ss x ys) c) H'→Γ):Γ:=
 HA (r:=.s x) (o:=.list (nats (σ.fT x))) R (aF h) ((aF h).trans (by(refine aa (show(σ.ss x ys).fT x=ys from aU) ?_;with_reducible rfl))) (fun r z=>by
  cases r<;>first|rfl|(show(if _ then some (_,AO.list (nats (fset σ.fT x ys _)))else none)=_;refine aa (aP fun q=>z (by rw[q])) ?_;rfl)) (nH s) κ
theorem ZS(R:Rep (mix L V σ c) H)(h:x∈V)(sm:(σ.fT x++[(σ.bS x).length]).length<bQ){Γ:Prop}(κ:∀H',Cf (n+1) .iD [.loc (L.d x)] H .none H'→Rep (mix L V (σ.push x) c) H'→Γ):Γ:=by
 refine Yl R h _ sm fun H' p R'=>?_;refine κ H' (iB rfl rfl (aS (dM (d9 (fQ (aj rfl) (JQ (mV R h)) (mW R h) rfl) (gG (mS R h) rfl) (ai (bI (ai (aj rfl) aq) (rC (Hx (mV R h)))) aq) (ir (yW (mS R h)) ?_))))) R';rw[fR,zZ];exact p
theorem Qn(e:σ.fT x=T++[(σ.bS x).length+k]):σ.pop x=((σ.ss x T).sv x (σ.bS x++(σ.eN x).drop ((σ.eN x).length -k))).sh x ((σ.eN x).take ((σ.eN x).length -k)):=by
 delta Dz.pop Dz.ss Dz.sv Dz.sh
 (refine aa e (aa FU ?_);refine aa Oj (aa (show(some ((σ.bS x).length+k)).getD 0 -(σ.bS x).length=k from Nat.add_sub_cancel_left _ _) ?_);with_reducible rfl)
theorem abq(e:σ.fT x=T++[(σ.bS x).length+0]):σ.pop x=σ.ss x T:=by
 rw[Qn e,Nat.sub_zero,List.drop_length,eW,Ot];show(⟨fset σ.bS x (σ.bS x),fset σ.eN x (σ.eN x),_⟩:Dz)=_
 (refine aa z6 (aa z6 ?_));rfl
theorem abr{k:Nat}(R:Rep (mix L V σ c) H)(h:x∈V)(e:σ.fT x=T++[(σ.bS x).length+k])(sm:(σ.fT x).length<bQ)(sm1:(σ.bS x).length+(σ.eN x).length<bQ){Γ:Prop}(κ:∀H',Cf (n+1) .gO [.loc (L.d x)] H .none H'→Rep (mix L V (σ.pop x) c) H'→Γ):Γ:=by
 rw[e,bU]at sm;have hs:=mS R h;rw[e,←zZ]at hs;refine Yl R h T (Nat.lt_of_le_of_lt (Nat.le_add_right _ _) sm) fun H1 p1 R1=>?_;have v1:Ev n (.bin .sub (.cQ (.attr (.var 0) .fh) .pop .nil) (.call (.lit (.glob .len)) (.cons (.var 0) .nil))) [some (.loc (L.d x)),none] H (.int (((σ.bS x).length+k:Nat) -((aO (σ.bS x)).length:Int))) H1:=
  jX (d9 (fQ (aj rfl) (JQ (mV R h)) (mW R h) rfl) (gG hs rfl) aq (Nv (yW hs) p1)) (bI (ai (aj rfl) aq) (rC (Hx (mV R1 h)))) Px
 rw[fR,show(((σ.bS x).length+k:Nat) -(σ.bS x).length:Int)=k by rw[Int.natCast_add,Int.add_comm];exact Int.add_sub_cancel ..]at v1;cases k with
 |zero=>exact κ _ (iB rfl rfl (aA (cC v1) (aS (bF (fB rfl (acm rfl)) bD)))) (by exact aa (abq e) R1)
 |succ k=>
  haveI q2: -((k+1:Nat):Int)<0:=Int.neg_neg_of_pos (Int.natCast_pos.mpr (Nat.succ_pos k));have e1:(-(-((k+1:Nat):Int))).toNat=k+1:=by rw[Int.neg_neg];rfl
  rw[Qn e]at κ;refine R1.tmp (.list (aO ((σ.eN x).drop ((σ.eN x).length -(k+1))))) (dH (Nat.lt_of_le_of_lt (by exact aa FZ (Nat.le_trans (Nat.sub_le _ _) (Nat.le_add_left _ _))) sm1)) fun H2 l p2 R2 g2 hl fr=>?_;refine Yj R2 h (σ.bS x++(σ.eN x).drop ((σ.eN x).length -(k+1))) (by(refine aa bU (aa FZ ?_));exact Nat.lt_of_le_of_lt (Nat.add_le_add_left (Nat.sub_le _ _) _) sm1) fun H3 p3 R3=>?_;refine Yk R3 h ((σ.eN x).take ((σ.eN x).length -(k+1))) (by exact aa AJ (Nat.lt_of_le_of_lt (Nat.le_trans (Nat.min_le_right _ _) (Nat.le_add_left _ _)) sm1)) fun H4 p4 R4=>?_;haveI f1:Pu (.list ((aO (σ.eN x)).drop ((aO (σ.eN x)).length -(-(-((k+1:Nat):Int))).toNat))) H1 (.loc l) H2:=by rw[e1,fR];unfold aO;exact ez List.map_drop p2
  refine κ H4 (iB rfl rfl (aA (cC v1) (aS (cV (fB rfl (acm rfl)) (aA (dM (d9 (aj rfl) (Nu (mV R1 h) (mW R1 h) rfl) (ai (Zx (fQ (aj rfl) (JQ (mV R1 h)) (mW R1 h) rfl) (I2 (aj rfl)) q2 (BI (mH R1 h)) f1) aq) (DJ (W8 (mV R2 h)) hl (fr (r:=.v x) (aF h)) ?_))) (aS (UX (fQ (aj rfl) (JQ (mV R3 h)) (mW R3 h) rfl) (I2 (aj rfl)) (mH R3 h) q2 ?_))))))) R4
  ·rw[←ints_app];exact p3
  ·rw[e1,fR];unfold aO;exact ez AQ p4
end
theorem any_ints(xs:List Int):bh (fun y b=>CD 3 H y (.int v) b) (aO xs) (xs.map fun x=>decide (x=v)):=by
 induction xs with
 |nil=>exact .nil
 |cons x xs ih=>exact .cons vv ih
theorem RB(xs:List Str):bh (fun y b=>CD 3 H y (.str v) b) (xs.map AV.str) (xs.map fun x=>decide (x=v)):=by
 induction xs with
 |nil=>exact .nil
 |cons x xs ih=>exact .cons Br ih
theorem BJ[DecidableEq α](xs:List α):(xs.map fun x=>decide (x=v)).any id=decide (v∈xs):=by
 induction xs with
 |nil=>rfl
 |cons x xs ih=>
  show(decide (x=v)||(xs.map fun x=>decide (x=v)).any id)=_;rw[ih,←Bool.decide_or];exact nj.mpr (by rw[bw];exact or_congr_left eq_comm)
theorem Vl:An H (.int v) (aO xs) (decide (v∈xs)):=⟨_,any_ints xs,BJ xs⟩
theorem BK{xs:List Str}:An H (.str v) (xs.map AV.str) (decide (v∈xs)):=⟨_,RB xs,BJ xs⟩
theorem Js:∀{xs:List Int},v∈xs→Rm H (.int v) (aO xs) (aO (xs.erase v))
 |x::xs,h=>by
  by_cases e:x=v
  ·subst e;exact⟨0,.here (by haveI:=vv (k:=3) (H:=H) (i:=x) (j:=x);rwa [bN rfl]at this),by rw[List.erase_cons_head];rfl⟩
  ·refine bE (Js (H:=H) ((bw.mp h).resolve_left fun q=>e q.symm)) fun j f q=>?_;refine⟨j+1,.next (by haveI:=vv (k:=3) (H:=H) (i:=x) (j:=v);rwa [bP e]at this) f,?_⟩
   (refine aa List.erase_cons (aa (au (fun q=>e (beq_iff_eq.mp q))) ?_))
   exact aR (AV.int x:: ·) q
noncomputable def Dz.reset(σ:Dz)(y:Str):Dz:={bS:=fset σ.bS y (σ.bS y++σ.eN y),eN:=fset σ.eN y [],fT:=fset σ.fT y []}
section
variable{L:DL}{V:List Str}{σ:Dz}{c:Cm}{H:Hp}{r:Ro}{l:Nat}{o o':AO}{x:Str}{n:Nat}
theorem ZT(R:Rep (mix L V σ c) H)(h:x∈V)(hv:v∈σ.bS x)(sm:(σ.bS x).length<bQ)(sm1:(σ.eN x).length+1<bQ){Γ:Prop}(κ:∀H',Cf (n+1) .gH [.loc (L.d x),.int v] H .none H'→Rep (mix L V (σ.hide x v) c) H'→Γ):Γ:=by
 refine Yj R h ((σ.bS x).erase v) (Nat.lt_of_le_of_lt List.length_erase_le sm) fun H1 p1 R1=>?_;refine Yk R1 h (σ.eN x++[v]) (by exact aa bU sm1) fun H2 p2 R2=>?_;refine κ _ (iB rfl rfl (aA (dM (d9 (aj rfl) (Nu (mV R h) (mW R h) rfl) (ai (aj rfl) aq) (xG (W8 (mV R h)) (Js hv) p1)))
  (aS (dM (d9 (fQ (aj rfl) (JQ (mV R1 h)) (mW R1 h) rfl) (gG (mH R1 h) rfl) (ai (aj rfl) aq) (ir (yW (mH R1 h)) ?_)))))) R2
 rw[ints_snoc];exact p2
theorem Vm(R:Rep (mix L V σ c) H)(h:x∈V)(sm:(σ.bS x++σ.eN x).length<bQ){Γ:Prop}(κ:∀H',Cf (n+1) .gJ [.loc (L.d x)] H .none H'→Rep (mix L V (σ.reset x) c) H'→Γ):Γ:=by
 haveI z0:(0:Nat)<bQ:=by decide
 refine Yj R h _ sm fun H1 p1 R1=>?_;refine Yk R1 h [] z0 fun H2 p2 R2=>?_;refine Yl R2 h [] z0 fun H3 p3 R3=>?_;have ne:L.h x≠L.d x:=fun q=>by
  haveI h1:=mH R h;rw[q,mV R h]at h1;cases h1
 refine κ _ (iB rfl rfl (aA (dM (d9 (aj rfl) (Nu (mV R h) (mW R h) rfl) (ai (fQ (aj rfl) (JQ (mV R h)) (mW R h) rfl) aq) (DJ (W8 (mV R h)) (mH R h) ne ?_)))
  (aA (Ht (fQ (aj rfl) (JQ (mV R1 h)) (mW R1 h) rfl) (mH R1 h) p2) (aS (Ht (fQ (aj rfl) (JQ (mV R2 h)) (mW R2 h) rfl) (mS R2 h) p3))))) R3
 rw[←ints_app];exact p1
inductive Sr(H:Hp)(u:AV)(ys:List AV):Prop
 |l (r:Nat) (e:u=.loc r) (h:H[r]? =some (.list ys))
 |t (r:Nat) (e:u=.loc r) (h:H[r]? =some (.tuple ys))
 |d (r d:Nat) (e:u=.loc r) (h:H[r]? =some (.dom ys d))
theorem xH(r1 r2 r3 r4:Ro)(R:Rep c H)(s:Sr H u ys)(sm:ys.length<bQ)(n12:r1≠r2)(n13:r1≠r3)(n14:r1≠r4)(n23:r2≠r3)(n24:r2≠r4)(z1:r1.nz=true)(z2:r2.nz=true)(z3:r3.nz=true)(z4:r4.nz=true){Γ:Prop}(κ:∀H' y d h t,Cl (n+1) (.glob (.cls .domain)) [u] H (.loc y) H'→Rep ((((c.up r1 (y,.dom ys d)).up r2 (d,.attrs [(.hidden,.loc h),(.fh,.loc t)])).up r3 (h,.list [])).up r4 (t,.list [])) H'→Γ):Γ:=by
 haveI z0:(0:Nat)<bQ:=by decide
 refine R.new r2 z2 (.attrs []) trivial fun H1 d p1 R1 g1=>?_;refine R1.new r1 z1 (.dom [] d) z0 fun H2 y p2 R2 g2=>?_;refine R2.str up_eq (.dom ys d) sm fun H3 p3 R3=>?_;refine R3.new r3 z3 (.list []) z0 fun H4 h p4 R4 _=>?_;have a4:=(aX (p:=(h,.list [])) n23).trans ((aX (p:=(y,.dom ys d)) n12.symm).trans ((aX (p:=(y,.dom [] d)) n12.symm).trans (up_eq (c:=c) (p:=(d,.attrs [])))));refine R4.str a4 (.attrs [(.hidden,.loc h)]) trivial fun H5 p5 R5=>?_;refine R5.new r4 z4 (.list []) z0 fun H6 t p6 R6 _=>?_;have a6:=(aX (c:=_) (p:=(t,.list [])) n24).trans (up_eq (c:=(((c.up r2 (d,.attrs [])).up r1 (y,.dom [] d)).up r1 (y,.dom ys d)).up r3 (h,.list [])) (p:=(d,.attrs [(.hidden,.loc h)])));refine R6.str a6 (.attrs [(.hidden,.loc h),(.fh,.loc t)]) trivial fun H7 p7 R7=>?_;haveI g0:=R2.get up_eq;obtain⟨w,rfl,hs,hw⟩:∃w,u=.loc w∧Src H2 w ys∧w<H.length:=by
  cases s with
  |l w e h=>exact⟨w,e,.inl (g2 (g1 h)),(fU.mp h).1⟩
  |t w e h=>exact⟨w,e,.inr (.inl (g2 (g1 h))),(fU.mp h).1⟩
  |d w d e h=>exact⟨w,e,.inr (.inr ⟨d,g2 (g1 h)⟩),(fU.mp h).1⟩
 haveI ne:y≠w:=fun q=>by
  haveI z:=p2.loc;rw[p1.h,bU,q]at z;exact absurd hw (Nat.not_lt.mpr (z▸Nat.le_add_right _ _))
 refine κ H7 y d h t (abp p1 p2 (iB rfl rfl (aA (dM (Vj (aj rfl) (aj rfl) g0 hs ne p3)) (aA (qE (b9 aq p4) (aj rfl) (Qk (R4.get ((aX n13).trans up_eq)) (R4.get a4) p5)) (aS (qE (b9 aq p6) (aj rfl) (Qk (q:=.fh) (R6.get ((aX n14).trans ((aX n12).trans ((aX n13).trans up_eq)))) (R6.get a6) p7))))))) (R7.le fun r p q=>?_);unfold Cm.up at q ⊢
 by_cases z2:r=r2
 ·subst z2;rw[au n24,au n23,aF rfl]at q;exact aa (aF rfl) q
 ·by_cases z1:r=r1
  ·subst z1;rw[au n14,au n13,au n12,aF rfl]at q;(refine aa (au n12) (aa (au n14) ?_);refine aa (au n12) (aa (au n13) ?_);refine aa (aF rfl) ?_);exact q
  ·rw[au z2,au z1]at q;(refine aa (au z2) (aa (au z2) ?_);refine aa (au z1) (aa (au z1) ?_);refine aa (au z2) ?_);exact q
end
structure Fm where
 v:Str
 a:Int
 vals:List Int
 t:Nat
 vl:Nat
 pl:Nat
noncomputable def aN:List Fm→List (Str×Int)
 |[]=>[]
 |f::F=>aN F++[(f.v,f.a)]
noncomputable def keys(F:List Fm):List Str:=F.map Fm.v
noncomputable def un(V:List Str)(F:List Fm):List Str:=V.filter fun x=>decide (x∉keys F)
theorem jQ:y∈un V F↔y∈V∧y∉keys F:=by simp[un]
theorem t9:∀{A:List (Str×Int)},dK k (A++[(v,a)])=if(dK k A).isSome then dK k A else if v=k then some a else none:=by
 intro rv
 induction rv with
 |nil=>
  exact rfl
 |cons p_ A ih=>
  obtain⟨k',b⟩:=p_;show(if k'=k then some b else dK k (A++[(v,a)]))=if(if k'=k then some b else dK k A).isSome then(if k'=k then some b else dK k A)else _
  by_cases e:k'=k
  ·rw[aF e,aF e];rfl
  ·rw[au e,au e,ih]
theorem mP:∀{F:List Fm},(dK k (aN F)).isSome↔k∈keys F:=by
 intro rv
 induction rv with
 |nil=>
  exact⟨fun h=>(nf ((show false=true from h))),fun h=>(nx ((show k∈[]from h)))⟩
 |cons f F ih=>
  haveI:=ih;show(dK k (aN F++[(f.v,f.a)])).isSome↔k∈f.v::keys F;rw[t9,bw,←this]
  by_cases e:(dK k (aN F)).isSome
  ·rw[aF e];simp[e]
  ·rw[au e]
   by_cases z:f.v=k
   ·simp[z]
   ·simp[z,e,dg z]
theorem j9(h:k∉keys F):dK k (aN F)=none:=by
 cases q:dK k (aN F)with
 |none=>rfl
 |some a=>exact k9 (h (mP.mp (by rw[q];rfl)))
theorem kg(h:f.v∉keys F):dK k (aN (f::F))=if f.v=k then some f.a else dK k (aN F):=by
 show dK k (aN F++[(f.v,f.a)])=_;rw[t9]
 by_cases e:f.v=k
 ·rw[←e,j9 h,aF rfl];rfl
 ·rw[au e,au e]
  split
  ·rfl
  ·rename_i q;cases w:dK k (aN F)with
   |none=>rfl
   |some a=>rw[w]at q;exact k9 (q rfl)
theorem ext_cons(h:f.v∉keys F):Ext (aN (f::F)) s↔Ext (aN F) s∧s f.v=f.a:=by
 constructor
 ·refine fun e=>⟨fun k a q=>e k a ?_,e f.v f.a (by rw[kg h,aF rfl])⟩;rw[kg h,au]
  ·exact q
  ·rintro rfl;rw[j9 h]at q;cases q
 ·rintro ⟨e,z⟩ k a q
  rw[kg h]at q
  split at q
  ·rename_i w;cases q;rw[←w];exact z
  ·exact e k a q
section
variable(V:List Str)(D:Str→List Int)(C:List (List Str))
def Tf(asg:List (Str×Int))(y:Str)(v:Int):Prop:=∃W∈C,y∈W∧∃p∈W,p≠y∧dK p asg=some v
structure ur(s:Str→Int):Prop where
 dom:∀x∈V,s x∈D x
 con:∀W∈C,Apt s W
def cW:List Fm→Str→List Int→List Int→List Nat→Prop
 |[],y,bS,eN,fT=>bS.Perm (D y)∧eN=[]∧fT=[]
 |f::F,y,bS,eN,fT=>(y∈un V (f::F)∧∃h₀ g T,eN=h₀++g∧fT=T++[bS.length+g.length]∧0<bS.length+g.length∧(∀u∈g,Tf C (aN (f::F)) y u)∧cW F y (bS++g) h₀ T)∨(y∉un V (f::F)∧cW F y bS eN fT)
def Good(F:List Fm)(σ:Dz):Prop:=∀y∈V,cW V D C F y (σ.bS y) (σ.eN y) (σ.fT y)
def NE(F:List Fm)(σ:Dz):Prop:=∀y∈un V F,σ.bS y≠[]
end
section
variable{V:List Str}{D:Str→List Int}{C:List (List Str)}{F:List Fm}{f:Fm}{y:Str}{bS eN:List Int}{fT:List Nat}
theorem cW.nil(p:bS.Perm (D y)):cW V D C [] y bS [] []:=⟨p,rfl,rfl⟩
theorem cW.on(hy:y∈un V (f::F))(pos:0<bS.length+g.length)(j:∀u∈g,Tf C (aN (f::F)) y u)(h:cW V D C F y (bS++g) h₀ T):cW V D C (f::F) y bS (h₀++g) (T++[bS.length+g.length]):=.inl ⟨hy,h₀,g,T,rfl,rfl,pos,j,h⟩
theorem cW.perm(h:cW V D C F y bS eN fT):∀{Ym:List Int},bS.Perm Ym→cW V D C F y Ym eN fT:=by
 induction F generalizing bS eN fT with
 |nil=>exact fun p=>⟨p.symm.trans h.1,h.2⟩
 |cons f F ih=>
  intro Ym p;refine h.elim (fun h=>?_) fun h=>.inr ⟨h.1,ih h.2 p⟩;obtain⟨hy,h₀,g,T,e1,e2,pos,j,h⟩:=h;rw[p.length_eq]at e2 pos;exact .inl ⟨hy,h₀,g,T,e1,e2,pos,j,ih h (p.append_right _)⟩
theorem cW.mem(S:ur V D C s)(h:cW V D C F y bS eN fT)(hy:y∈V):(keys F).Nodup→Ext (aN F) s→s y∈bS:=by
 induction F generalizing bS eN fT with
 |nil=>exact fun _ _=>h.1.mem_iff.mpr (S.dom _ hy)
 |cons f F ih=>
  intro nd e;have uS:=dO.mp nd;have e':=(ext_cons uS.1).mp e;refine h.elim (fun h=>?_) fun h=>ih h.2 uS.2 e'.1;obtain⟨_,h₀,g,T,_,_,_,j,h⟩:=h;exact(dc.mp (ih h uS.2 e'.1)).elim id fun m=>(j _ m).elim fun W h=>h.2.2.elim fun p q=>absurd (e p _ q.2.2) (S.con W h.1 p q.1 _ h.2.1 q.2.1)
theorem cW.top(h:cW V D C (f::F) y bS eN fT)(e1:f'.v=f.v)(e2:f'.a=f.a):cW V D C (f'::F) y bS eN fT:=by
 cases f;cases f';cases e1;cases e2;exact h
theorem cW.all(h:cW V D C F y bS eN fT):(bS++eN).Perm (D y)∧fT.length≤F.length:=by
 induction F generalizing bS eN fT with
 |nil=>rw[h.2.1,h.2.2,eW];exact⟨h.1,Nat.le_refl _⟩
 |cons f F ih=>
  refine h.elim (fun h=>?_) fun h=>⟨(ih h.2).1,Nat.le_succ_of_le (ih h.2).2⟩;obtain⟨_,h₀,g,T,e1,e2,_,_,h⟩:=h;rw[e1,e2,bU];exact⟨((Og (l₁:=h₀) (l₂:=g)).append_left bS).trans (by rw[←gQ];exact(ih h).1),Nat.succ_le_succ (ih h).2⟩
theorem cW.push(h:cW V D C F y bS eN fT)(hy:y∈un V (f::F))(ne:bS≠[]):cW V D C (f::F) y bS eN (fT++[bS.length]):=by
 haveI:=cW.on (g:=[]) (f:=f) hy (FY.mpr ne) MB (by rw[eW];exact h)
 rwa [eW]at this
theorem cW.acn(hy:y∉un V (f::F)):cW V D C (f::F) y bS eN fT↔cW V D C F y bS eN fT:=
 ⟨fun h=>h.elim (fun h=>absurd h.1 hy) And.right,fun h=>.inr ⟨hy,h⟩⟩
theorem cW.onE(h:cW V D C (f::F) y bS eN fT)(hy:y∈un V (f::F)){Γ:Prop}(κ:∀h₀ g T,eN=h₀++g→fT=T++[bS.length+g.length]→0<bS.length+g.length→(∀u∈g,Tf C (aN (f::F)) y u)→cW V D C F y (bS++g) h₀ T→Γ):Γ:=
 h.elim (fun h=>h.2.elim fun h₀ h=>h.elim fun g h=>h.elim fun T h=>κ h₀ g T h.1 h.2.1 h.2.2.1 h.2.2.2.1 h.2.2.2.2) fun h=>absurd hy h.1
theorem cW.hide{v:Int}(h:cW V D C (f::F) y bS eN fT)(hy:y∈un V (f::F))(j:Tf C (aN (f::F)) y v)(hv:v∈bS):cW V D C (f::F) y (bS.erase v) (eN++[v]) fT:=by
 refine h.onE hy fun h₀ g T e1 e2 e3 e4 h=>?_;haveI p:=Oi hv;haveI el:(bS.erase v).length+(g++[v]).length=bS.length+g.length:=by rw[bU,p.length_eq,wW,wW,AK,←Nat.add_assoc,Nat.add_right_comm]
 haveI:=cW.on (g:=g++[v]) (bS:=bS.erase v) (T:=T) (h₀:=h₀) hy (by rw[el];exact e3) (fun u hu=>(dc.mp hu).elim (e4 u) fun hu=>by rw[bO.mp hu];exact j) (h.perm (by
  rw[←gQ];exact((p.trans (N9 v (bS.erase v)).symm).append_right g).trans (by
   rw[gQ,gQ];exact(Og (l₁:=[v]) (l₂:=g)).append_left _)))
 rw[el,←e2]at this;rw[e1,gQ];exact this
theorem cW.pop{σ:Dz}(h:cW V D C (f::F) y (σ.bS y) (σ.eN y) (σ.fT y))(hy:y∈un V (f::F)):
  (∃T k,σ.fT y=T++[(σ.bS y).length+k])∧cW V D C F y ((σ.pop y).bS y) ((σ.pop y).eN y) ((σ.pop y).fT y)∧(σ.pop y).bS y≠[]:=by
 refine h.onE hy fun h₀ g T e1 e2 e3 e4 h=>⟨⟨T,g.length,e2⟩,?_⟩;haveI ek:(σ.fT y).getLast?.getD 0 -(σ.bS y).length=g.length:=by rw[e2,FU];exact Nat.add_sub_cancel_left _ _
 haveI el:(h₀++g).length -g.length=h₀.length:=by rw[bU,Nat.add_sub_cancel]
 simp only[Dz.pop,aU];rw[ek,e1,e2,el,List.drop_left,Ox,Oj];exact⟨h,fun z=>Nat.lt_irrefl 0 (by rw[←bU,z]at e3;exact e3)⟩
theorem hide_ne{σ:Dz}(h:y≠x):(σ.hide x v).bS y=σ.bS y∧(σ.hide x v).eN y=σ.eN y∧(σ.hide x v).fT y=σ.fT y:=⟨aP h,aP h,rfl⟩
theorem tU{σ:Dz}(h:y≠x):(σ.pop x).bS y=σ.bS y∧(σ.pop x).eN y=σ.eN y∧(σ.pop x).fT y=σ.fT y:=⟨aP h,aP h,aP h⟩
theorem Jt{σ:Dz}(h:y≠x):(σ.push x).bS y=σ.bS y∧(σ.push x).eN y=σ.eN y∧(σ.push x).fT y=σ.fT y:=⟨rfl,rfl,aP h⟩
structure HGd(V:List Str)(D:Str→List Int)(C:List (List Str))(f:Fm)(F:List Fm)(E:Dz→Prop)(r:Bool×Dz):Prop where
 g:Good V D C (f::F) r.2
 t:r.1=true→NE V (f::F) r.2
 n:r.1=false→E r.2
theorem Good.hide{σ:Dz}(g:Good V D C (f::F) σ)(hy:y∈un V (f::F))(j:Tf C (aN (f::F)) y v)(hv:v∈σ.bS y):Good V D C (f::F) (σ.hide y v):=fun z hz=>by
 by_cases e:z=y
 ·rw[e]at hz ⊢;show cW V D C (f::F) y (fset _ _ _ y) (fset _ _ _ y) _;rw[aU,aU];exact(g y hz).hide hy j hv
 ·rw[(hide_ne e).1,(hide_ne e).2.1,(hide_ne e).2.2];exact g z hz
theorem Eu(hy:y∈un V (f::F)){vs:List Int}:∀{σ:Dz},(∀v∈vs,Tf C (aN (f::F)) y v)→Good V D C (f::F) σ→NE V (f::F) σ→HGd V D C f F (fun ck=>ck.bS y=[]) (gU y vs σ):=by
 induction vs with
 |nil=>exact fun _ g ne=>⟨g,fun _=>ne,(fun h_=>nt h_)⟩
 |cons v vs ih=>
  intro σ j g ne;haveI j':∀v∈vs,Tf C (aN (f::F)) y v:=fun v hv=>j v (cZ _ hv);show HGd V D C f F _ (if v∈σ.bS y then(if(σ.hide y v).bS y=[]then(false,σ.hide y v)else gU y vs (σ.hide y v))else gU y vs σ)
  by_cases hv:v∈σ.bS y
  ·rw[aF hv];haveI g':=g.hide hy (j v cI) hv
   by_cases w:(σ.hide y v).bS y=[]
   ·rw[aF w];exact⟨g',(fun h_=>nf h_),fun _=>w⟩
   ·rw[au w];exact ih j' g' fun z hz=>by
     by_cases e:z=y
     ·rw[e];exact w
     ·rw[(hide_ne e).1];exact ne z hz
  ·rw[au hv];exact ih j' g ne
theorem LN:∀{σ:Dz},(∀y∈W,y∈V)→(∀y∈W,y∉keys (f::F)→∀v∈seen,Tf C (aN (f::F)) y v)→Good V D C (f::F) σ→NE V (f::F) σ→HGd V D C f F (fun ck=> ∃y∈V,ck.bS y=[]) (ow (aN (f::F)) seen W σ):=by
 induction W with
 |nil=>exact fun _ _ g ne=>⟨g,fun _=>ne,(fun h_=>nt h_)⟩
 |cons y W ih=>
  intro σ hV j g ne;haveI hV':∀y∈W,y∈V:=fun z hz=>hV z (cZ _ hz);haveI j':∀y∈W,y∉keys (f::F)→∀v∈seen,Tf C (aN (f::F)) y v:=fun z hz=>j z (cZ _ hz);show HGd V D C f F _ (if(dK y (aN (f::F))).isSome then ow (aN (f::F)) seen W σ else match gU y seen σ with
   |(true,ck)=>ow (aN (f::F)) seen W ck
   |(false,ck)=>(false,ck))
  by_cases q:(dK y (aN (f::F))).isSome
  ·rw[aF q];exact ih hV' j' g ne
  ·rw[au q];haveI hk:y∉keys (f::F):=fun z=>q (mP.mpr z);haveI hy:=hV y cI;haveI h:=Eu (vs:=seen) (jQ.mpr ⟨hy,hk⟩) (j y cI hk) g ne;generalize gU y seen σ=r at h ⊢;obtain⟨b,ck⟩:=r;cases b with
   |true=>exact ih hV' j' h.g (h.t rfl)
   |false=>exact⟨h.g,(fun h_=>nf h_),fun _=>⟨y,hy,h.n rfl⟩⟩
structure CGd(V:List Str)(D:Str→List Int)(C:List (List Str))(f:Fm)(F:List Fm)(Ws:List (List Str))(r:Bool×Dz):Prop where
 g:Good V D C (f::F) r.2
 t:r.1=true→NE V (f::F) r.2
 d:r.1=true→∀W∈Ws,Dis (aN (f::F)) W
 n:r.1=false→∀s,ur V D C s→¬Ext (aN (f::F)) s
theorem Ey(nd:(keys (f::F)).Nodup)(hC:∀W∈C,W.Nodup∧∀y∈W,y∈V):∀{σ:Dz},(∀W∈Ws,W∈C)→Good V D C (f::F) σ→NE V (f::F) σ→CGd V D C f F Ws (lE (aN (f::F)) fwd Ws σ):=by
 induction Ws with
 |nil=>exact fun _ g ne=>⟨g,fun _=>ne,fun _ W hW=>(nx hW),(fun h_=>nt h_)⟩
 |cons W Ws ih=>
  intro σ hs g ne;haveI hW:=hs W cI;haveI IJ:∀W∈Ws,W∈C:=fun z hz=>hs z (cZ _ hz);show CGd V D C f F _ (match(match seenOf (aN (f::F)) W []with
   |none=>(false,σ)
   |some seen=>if fwd then ow (aN (f::F)) seen W σ else(true,σ))with
   |(true,ck)=>lE (aN (f::F)) fwd Ws ck
   |(false,ck)=>(false,ck))
  cases q:seenOf (aN (f::F)) W []with
  |none=>exact⟨g,(fun h_=>nf h_),(fun h_=>nf h_),fun _ s S e=>Er e (P:=[]) (seen:=[]) MB (hC W hW).1 (S.con W hW) q⟩
  |some seen=>
   haveI h1:=Es q;haveI fin:∀{ck:Dz},Good V D C (f::F) ck→NE V (f::F) ck→CGd V D C f F (W::Ws) (lE (aN (f::F)) fwd Ws ck):=fun g' ne'=>
    haveI d:=ih IJ g' ne'
    ⟨d.g,d.t,fun z W' hW'=>(bw.mp hW').elim (fun e=>e▸h1.2.2) (d.d z W'),d.n⟩
   cases fwd with
   |false=>exact fin g ne
   |true=>
    haveI h:=LN (seen:=seen) (C:=C) (D:=D) (hC W hW).2 (fun y hy hk v hv=>((h1.1 v).mp hv).elim (fun z=>(nx z)) fun z=>z.elim fun p hp=>⟨W,hW,hy,p,hp.1,(fun z=>by rw[z,j9 hk]at hp;cases hp.2),hp.2⟩) g ne;show CGd V D C f F _ (match ow (aN (f::F)) seen W σ with
     |(true,ck)=>lE (aN (f::F)) true Ws ck
     |(false,ck)=>(false,ck))
    generalize ow (aN (f::F)) seen W σ=r at h ⊢;obtain⟨b,ck⟩:=r;cases b with
    |true=>exact fin h.g (h.t rfl)
    |false=>exact⟨h.g,(fun h_=>nf h_),(fun h_=>nf h_),fun _ s S e=>(h.n rfl).elim fun y hy=>by
      haveI:=(h.g y hy.1).mem S hy.1 nd e;rw[hy.2]at this;exact(nx this)⟩
end
noncomputable def SL.hd:SL→S
 |.cons s _=>s
 |.nil=>.junk
noncomputable def SL.tl:SL→SL
 |.cons _ r=>r
 |.nil=>.nil
noncomputable def S.b1:S→SL
 |.for _ _ b _=>b
 |.while _ b _=>b
 |.if _ a _=>a
 |.try b _=>b
 |_=>.nil
noncomputable def S.b2:S→SL
 |.for _ _ _ o=>o
 |.while _ _ o=>o
 |.if _ _ b=>b
 |_=>.nil
theorem mq(h:n<1000):n<bQ:=Nat.lt_trans h (by decide)
theorem kG{c:Cm}(h:c r=none)(k:c r'=some q):c.up r p r'=some q:=by
 rw[aX]
 ·exact k
 ·rintro rfl;rw[h]at k;cases k
noncomputable def ZU:AO→Bool
 |.jB _=>false|_=>true
theorem bq(h:H[l]? =some o)(h':H'[l]? =some o)(k:ZU o=true):gW H l H':=⟨h'.trans h.symm,fun d q=>by rw[h]at q;cases q;cases k⟩
noncomputable def aW(xs:List Str):List AV:=xs.map AV.str
noncomputable def dh(asg:List (Str×Int)):List (AV×AV):=asg.map fun p=>(.str p.1,.int p.2)
noncomputable def iT(seen:List Int):List (AV×AV):=seen.map fun v=>(.int v,.bool true)
noncomputable def bW(L:DL)(V:List Str):List (AV×AV):=V.map fun x=>(.str x,.loc (L.d x))
theorem pC:∀{A:List (Str×Int)},dJ (.str k) (dh A)=(dK k A).map AV.int:=by
 intro rv
 induction rv with
 |nil=>
  exact rfl
 |cons p_ A ih=>
  obtain⟨k',v⟩:=p_;show(if AV.str k'=.str k then some (AV.int v)else dJ (.str k) (dh A))=(if k'=k then some v else dK k A).map AV.int
  by_cases e:k'=k
  ·(refine aa (aF e) (aa (aF (aR _ e)) ?_));rfl
  ·(refine aa (au e) (aa (au (fun q=>e (AV.str.inj q))) ?_);refine aa ih ?_;with_reducible rfl)
theorem LO:∀{seen:List Int},(dJ (.int v) (iT seen)).isSome=decide (v∈seen):=by
 intro rv
 induction rv with
 |nil=>
  exact rfl
 |cons w seen ih=>
  show(if AV.int w=.int v then some (AV.bool true)else dJ (.int v) (iT seen)).isSome=_
  by_cases e:w=v
  ·(refine aa (aF (aR _ e)) (aa e ?_));simp
  ·(refine aa (au (fun q=>e (AV.int.inj q))) (aa ih ?_));simp[dg e]
theorem LQ:∀{seen:List Int},v∉seen→dput (.int v) (.bool true) (iT seen)=iT (seen++[v]):=by
 intro rv
 induction rv with
 |nil=>
  intro _;exact rfl
 |cons w seen ih=>
  intro h;show(if AV.int w=.int v then(AV.int w,AV.bool true)::iT seen else(AV.int w,AV.bool true)::dput (.int v) (.bool true) (iT seen))=_
  (refine aa (au (fun q=>h (by rw[AV.int.inj q];exact cI))) ?_;refine aa (ih (fun q=>h (cZ _ q))) ?_);rfl
theorem mL:∀{V:List Str},y∈V→dJ (.str y) (bW L V)=some (.loc (L.d y))
 |x::V,h=>by
  show(if AV.str x=.str y then some (AV.loc (L.d x))else dJ (.str y) (bW L V))=_
  by_cases e:x=y
  ·(refine aa (aF (aR _ e)) (aa e ?_);with_reducible rfl)
  ·(refine aa (au (fun q=>e (AV.str.inj q))) (aa (mL ((bw.mp h).resolve_left (fun q=>e q.symm))) ?_);with_reducible rfl)
def Sz(V:List Str)(σ:Dz):Prop:=∀y∈V,(σ.bS y).length+(σ.eN y).length<900∧(σ.fT y).length<900
theorem Sz.hide(h:Sz V σ)(hv:v∈σ.bS x):Sz V (σ.hide x v):=fun y hy=>by
 haveI z:=h y hy
 by_cases e:y=x
 ·rw[e]at z ⊢;rw[show(σ.hide x v).bS x=(σ.bS x).erase v from aU,show(σ.hide x v).eN x=σ.eN x++[v]from aU,bU,za,←Nat.add_assoc,Nat.add_right_comm,←(Oi hv).length_eq.trans (wW ..)];exact z
 ·(refine aa ((hide_ne e).1) (aa ((hide_ne e).2.1) ?_);refine aa ((hide_ne e).2.2) ?_);exact z
theorem Ny{c:Cm}{p q:Nat×AO}(R:Rep (mix L V σ ((c.up r p).up r q)) H):Rep (mix L V σ (c.up r q)) H:=R.leM fun r' p' _ e=>by
 by_cases z:r'=r
 ·rw[z,up_eq]at e ⊢;exact e
 ·rw[aX z]at e ⊢;exact aa (aX z) e
section
variable{L:DL}{V:List Str}{σ:Dz}{c:Cm}{H:Hp}{asg:List (Str×Int)}{n lW lD lA ls epA JR:Nat}{rW rA rD:Ro}{self fw:AV}{u7 u8 u9:Option AV}{cD:Hp→Prop}
noncomputable def Mw(self:AV)(lW lD lA:Nat)(fw:AV)(ls:Nat)(u7 u8 u9:Option AV):LM:=[some self,some (.loc lW),some (.loc lD),some (.loc lA),some fw,some (.glob .unassigned),some (.loc ls),u7,u8,u9]
noncomputable def ad8:Option (List Int)→Option Fl
 |none=>some (.ret (.bool false))
 |some _=>none
theorem RC(c0:c (.a 0)=none)(hA:c rA=some (lA,.dict (dh asg) epA))(nA:rA.nd=true)
  (bZ:∀{σ p H},Rep (mix L V σ (c.up (.a 0) p)) H→cD H) {Γ:Prop}:∀{seen:List Int}{ep:Nat}{u7 u8:Option AV}{H:Hp},Rep (mix L V σ (c.up (.a 0) (ls,.dict (iT seen) ep))) H→seen.length+W.length<900→
  (∀qf uv H' kk yp,Tn (fS n Bk.tl.hd.b1) (.one 7) cD (aW W) (Mw self lW lD lA fw ls u7 u8 u9) H (ad8 (seenOf asg W seen)) (Mw self lW lD lA fw ls qf uv u9) H'→
   Rep (mix L V σ (c.up (.a 0) (ls,.dict kk yp))) H'→(∀out,seenOf asg W seen=some out→kk=iT out)→Γ)→Γ:=by
 induction W with
 |nil=>exact fun{seen ep u7 u8 H} R sm κ=>κ u7 u8 H _ _ .nil R fun out q=>by cases q;rfl
 |cons p W ih=>
  intro seen ep u7 u8 H R sm κ;haveI hA':=R.gM nA (kG c0 hA);haveI hs:=R.get (r:=.a 0) up_eq;have get:=d9 (n:=n) (a:=.var 3) (es:=.cons (.var 7) (.cons (.var 5) .nil)) (lm:=Mw self lW lD lA fw ls (some (.str p)) u8 u9) (aj rfl) (xd hA' rfl) (ai (aj rfl) (ai (aj rfl) aq)) (aak hA' rfl);rw[pC]at get;rw[show seenOf asg (p::W) seen=match dK p asg with|none=>seenOf asg W seen|some a=>if a∈seen then none else seenOf asg W (seen++[a])from rfl]at κ
  cases q:dK p asg with
  |none=>
   rw[q]at get κ;exact ih R (u7:=some (.str p)) (u8:=some (.glob .unassigned)) (Nat.lt_of_succ_lt sm) fun qf uv H' kk yp a b=>κ qf uv H' kk yp (dm fM (aA (cC get) (aS (bF (bA (aj rfl) (aj rfl) YK) bD))) (bZ R) a) b
  |some a=>
   rw[q]at get κ;have Mm:Te n (.cmp .Mm (.var 8) (.var 5)) (Mw self lW lD lA fw ls (some (.str p)) (some (.int a)) u9) H true H:=bA (aj rfl) (aj rfl) T4;have mem:=in_dict (u:=.int a) hs rfl;rw[LO]at mem;dsimp only at κ
   by_cases hm:a∈seen
   ·rw[bN hm]at mem;rw[aF hm]at κ;exact κ _ _ H _ _ (Hz fM (aA (cC get) (aJ (cV Mm (aJ (cV (bA (aj rfl) (aj rfl) (nR mem)) (aJ (jE aT) rfl)) rfl)) rfl))) R fun out q=>(Cv q)
   ·rw[bP hm]at mem;rw[au hm]at κ;refine R.jM (r:=.a 0) up_eq rfl (.dict (iT (seen++[a])) (if(dJ (.int a) (iT seen)).isSome then ep else ep+1)) (by show(jN _ _).length<bQ;rw[bR,bU];exact mq (Nat.lt_of_le_of_lt (Nat.succ_le_succ (Nat.le_add_right _ _)) (Nat.lt_trans sm (by decide)))) fun H1 p1 R1=>?_
    rw[←LQ hm]at p1;exact ih (Ny R1) (u7:=some (.str p)) (u8:=some (.int a)) (by rw[bU,Nat.add_assoc,Nat.add_comm _ W.length];exact sm) fun qf uv H' kk yp x b=>
     κ qf uv H' kk yp (dm fM (aA (cC get) (aS (cV Mm (aA (bF (bA (aj rfl) (aj rfl) (nR mem)) bD) (aS (zA aT (aj rfl) (aj rfl) (J8 hs rfl p1))))))) (bZ (Ny R1)) x) b
end
noncomputable def aco:Bool→Option Fl
 |true=>none
 |false=>some (.ret (.bool false))
theorem mQ:(aO xs).isEmpty=decide (xs=[]):=by cases xs<;>rfl
section
variable{L:DL}{V:List Str}{σ:Dz}{c:Cm}{H:Hp}{asg:List (Str×Int)}{n lW lD lA ls epA JR:Nat}{rW rA rD:Ro}{self fw:AV}{u7 u8 u9:Option AV}{cD:Hp→Prop}
noncomputable abbrev acp:SL:=Bk.tl.tl.hd.b1.hd.b1
noncomputable abbrev ad9:SL:=acp.hd.b1.tl.hd.b1
theorem RD(hy:y∈V)(bZ:∀{σ H},Rep (mix L V σ c) H→cD H){Γ:Prop}:∀{σ:Dz}{u8:Option AV}{H:Hp},Rep (mix L V σ c) H→Sz V σ→
  (∀uv H',Tn (fS (n+1) ad9) (.one 8) cD (aO vs) (Mw self lW lD lA fw ls u7 u8 (some (.loc (L.d y)))) H (aco (gU y vs σ).1) (Mw self lW lD lA fw ls u7 uv (some (.loc (L.d y)))) H'→
   Rep (mix L V (gU y vs σ).2 c) H'→Sz V (gU y vs σ).2→Γ)→Γ:=by
 induction vs with
 |nil=>exact fun{σ u8 H} R sz κ=>κ u8 H .nil R sz
 |cons v vs ih=>
  intro σ u8 H R sz κ;have mem:=ZQ (u:=.int v) (mV R hy) Vl;haveI z:=sz y hy;rw[show gU y (v::vs) σ=if v∈σ.bS y then(if(σ.hide y v).bS y=[]then(false,σ.hide y v)else gU y vs (σ.hide y v))else gU y vs σ from rfl]at κ
  by_cases hv:v∈σ.bS y
  ·rw[bN hv]at mem;rw[aF hv]at κ;refine ZT (n:=n) R hy hv (mq (Nat.lt_of_le_of_lt (Nat.le_add_right _ _) (Nat.lt_trans z.1 (by decide)))) (mq (Nat.lt_of_le_of_lt (Nat.succ_le_succ (Nat.le_add_left _ _)) (Nat.lt_trans (Nat.succ_lt_succ z.1) (by decide)))) fun H1 e1 R1=>?_;haveI call:En (n+1) (.expr (.cQ (.var 9) (.fn [.gH]) (.cons (.var 8) .nil))) (Mw self lW lD lA fw ls u7 (some (.int v)) (some (.loc (L.d y)))) H .next _ H1:=dM (qd (aj rfl) (JQ (mV R hy)) (mW R hy) (fun _=>rfl) (ai (aj rfl) aq) e1);have tr:=Be (mV R1 hy);rw[mQ]at tr
   by_cases w:(σ.hide y v).bS y=[]
   ·rw[aF w]at κ;rw[bN w]at tr;exact κ _ H1 (Hz fM (aJ (cV (bA (aj rfl) (aj rfl) (nR mem)) (aA call (aJ (cV (gu (fB rfl tr)) (aJ (jE aT) rfl)) rfl))) rfl)) R1 (sz.hide hv)
   ·rw[au w]at κ;rw[bP w]at tr;exact ih (u8:=some (.int v)) R1 (sz.hide hv) fun uv H' a b z=>κ uv H' (dm fM (aS (cV (bA (aj rfl) (aj rfl) (nR mem)) (aA call (aS (bF (gu (fB rfl tr)) bD))))) (bZ R1) a) b z
  ·rw[bP hv]at mem;rw[au hv]at κ;exact ih (u8:=some (.int v)) R sz fun uv H' a b z=>κ uv H' (dm fM (aS (bF (bA (aj rfl) (aj rfl) (nR mem)) bD)) (bZ R) a) b z
theorem Vn(R:Rep (mix L V σ c) H)(hs:c (.a 0)=some (ls,.dict (iT seen) ep)):Wk H ls (aO seen):=by
 haveI:=vI (R.gM (r:=.a 0) rfl hs)
 rwa [show(iT seen).map (·.1)=aO seen by delta iT aO;refine aa iM ?_;rfl]at this
theorem Vo{ep:Nat}(hs:c (.a 0)=some (ls,.dict (iT seen) ep))(hA:c rA=some (lA,.dict (dh asg) epA))(nA:rA.nd=true)(hD:c rD=some (lD,.dict (bW L V) JR))(nD:rD.nd=true)
  (bZ:∀{σ H},Rep (mix L V σ c) H→cD H) {Γ:Prop}:∀{σ:Dz}{u7 u8 u9:Option AV}{H:Hp},(∀y∈W,y∈V)→Rep (mix L V σ c) H→Sz V σ→
  (∀qf uv sN H',Tn (fS (n+1) acp) (.one 7) cD (aW W) (Mw self lW lD lA fw ls u7 u8 u9) H (aco (ow asg seen W σ).1) (Mw self lW lD lA fw ls qf uv sN) H'→
   Rep (mix L V (ow asg seen W σ).2 c) H'→Sz V (ow asg seen W σ).2→Γ)→Γ:=by
 induction W with
 |nil=>exact fun{σ u7 u8 u9 H} hV R sz κ=>κ u7 u8 u9 H .nil R sz
 |cons y W ih=>
  intro σ u7 u8 u9 H hV R sz κ;have hy:=hV y cI;have hV':∀y∈W,y∈V:=fun z hz=>hV z (cZ _ hz);have mem:=in_dict (u:=.str y) (R.gM nA hA) rfl;rw[pC]at mem;rw[show ow asg seen (y::W) σ=if(dK y asg).isSome then ow asg seen W σ else match gU y seen σ with|(true,ck)=>ow asg seen W ck|(false,ck)=>(false,ck)from rfl]at κ
  cases q:dK y asg with
  |some a=>
   rw[q]at mem κ;exact ih (u7:=some (.str y)) (u8:=u8) (u9:=u9) hV' R sz fun qf uv sN H' a b z=>κ qf uv sN H' (dm fM (aS (bF (bA (aj rfl) (aj rfl) (nq mem)) bD)) (bZ R) a) b z
  |none=>
   rw[q]at mem κ;refine RD (n:=n) (self:=self) (lW:=lW) (lD:=lD) (lA:=lA) (fw:=fw) (ls:=ls) (u7:=some (.str y)) (cD:=gW H ls) (vs:=seen) (u8:=u8) hy (fun R'=>bq (R.gM (r:=.a 0) rfl hs) (R'.gM (r:=.a 0) rfl hs) rfl) R sz fun abt jL eO sX Yn=>?_;have it:=Vn R hs;rw[au (by decide)]at κ;generalize gU y seen σ=r at eO sX Yn κ;obtain⟨b,ck⟩:=r;have acq:En (n+1) (.asg 9 (.sub (.var 2) (.var 7))) (Mw self lW lD lA fw ls (some (.str y)) u8 u9) H .next (Mw self lW lD lA fw ls (some (.str y)) u8 (some (.loc (L.d y)))) H:=cC (gR (aj rfl) (aj rfl) (oW (R.gM nD hD) (mL hy)));cases b with
   |false=>exact κ _ _ _ jL (Hz fM (aJ (cV (bA (aj rfl) (aj rfl) (nq mem)) (aA acq (aJ (qF (aj rfl) it eO) rfl))) rfl)) sX Yn
   |true=>exact ih (u7:=some (.str y)) (u8:=abt) (u9:=some (.loc (L.d y))) hV' sX Yn fun qf uv sN H' a b z=>κ qf uv sN H' (dm fM (aS (cV (bA (aj rfl) (aj rfl) (nq mem)) (aA acq (aS (gS (aj rfl) it eO bD))))) (bZ sX) a) b z
theorem Ju(c0:c (.a 0)=none)(hW:c rW=some (lW,.list (aW W)))(nW:rW.nd=true)(hA:c rA=some (lA,.dict (dh asg) epA))(nA:rA.nd=true)(hD:c rD=some (lD,.dict (bW L V) JR))(nD:rD.nd=true)
  (hV:∀y∈W,y∈V) (sW:W.length<900) (R:Rep (mix L V σ c) H) (hf:∀{σ H},Rep (mix L V σ c) H→Tr fw H fwd) (sz:Sz V σ) {Γ:Prop} (κ:∀H',Cf (n+2) .aCall [self,.loc lW,.loc lD,.loc lA,fw] H (.bool (aC asg W fwd σ).1) H'→Rep (mix L V (aC asg W fwd σ).2 c) H'→Sz V (aC asg W fwd σ).2→Γ):Γ:=by
 refine R.fY (.a 0) rfl (.dict [] 0) (by decide:(0:Nat)<bQ) fun H1 ls p1 R1 _=>?_;have drop:∀{σ p H},Rep (mix L V σ (c.up (.a 0) p)) H→Rep (mix L V σ c) H:=fun R=>R.leM fun r q _ e=>kG c0 e;refine RC (n:=n+1) (self:=self) (lW:=lW) (lD:=lD) (fw:=fw) (u7:=none) (u8:=none) (u9:=none) (cD:=gW H1 lW) (W:=W) (seen:=[]) c0 hA nA (fun R'=>bq (R1.gM nW (kG c0 hW)) (R'.gM nW (kG c0 hW)) rfl) R1 (by rw[AK,Nat.zero_add];exact sW) fun u7 u8 H2 kk ep a2 R2 k2=>?_;have pre:En (n+1) (.asg 6 .jC) [some self,some (.loc lW),some (.loc lD),some (.loc lA),some fw,some (.glob .unassigned),none,none,none,none] H .next (Mw self lW lD lA fw ls none none none) H1:=cC (nC p1);have it1:=bL (R1.gM nW (kG c0 hW));unfold aC at κ;cases q:seenOf asg W []with
 |none=>
  rw[q]at a2 κ;exact κ H2 (jY rfl rfl (aA pre (aJ (qF (aj rfl) it1 a2) rfl))) (drop R2) sz
 |some seen=>
  rw[q]at a2 κ;obtain rfl:=k2 _ q;haveI tf:=hf (drop R2);cases fwd with
  |false=>exact κ H2 (jY rfl rfl (aA pre (aA (gS (aj rfl) it1 a2 bD) (aA (bF (fB rfl tf) bD) (aJ (jE aT) rfl))))) (drop R2) sz
  |true=>
   refine Vo (n:=n) (self:=self) (lW:=lW) (fw:=fw) (u7:=u7) (u8:=u8) (u9:=none) (cD:=gW H2 lW) (W:=W) up_eq (kG c0 hA) nA (kG c0 hD) nD (fun R'=>bq (R2.gM nW (kG c0 hW)) (R'.gM nW (kG c0 hW)) rfl) hV R2 sz fun qf uv sN H' a3 R3 z3=>?_;refine κ H' ?_ (drop R3) z3;haveI MF:=bL (R2.gM nW (kG c0 hW));show Cf (n+2) _ _ H (AV.bool (ow asg seen W σ).1) H';generalize ow asg seen W σ=r at a3;obtain⟨b,ck⟩:=r;cases b with
   |false=>exact jY rfl rfl (aA pre (aA (gS (aj rfl) it1 a2 bD) (aJ (cV (fB rfl tf) (aJ (qF (aj rfl) MF a3) rfl)) rfl)))
   |true=>exact jY rfl rfl (aA pre (aA (gS (aj rfl) it1 a2 bD) (aA (cV (fB rfl tf) (aS (gS (aj rfl) MF a3 bD))) (aJ (jE aT) rfl))))
end
section
variable(V:List Str)(D:Str→List Int)(C:List (List Str))
def qw:List Fm→(Str→Int)→Prop
 |[],_=>False
 |f::F,s=>(ur V D C s∧Ext (aN F) s∧s f.v∈f.vals)∨qw F s
def Ag(F:List Fm)(v:Str)(vals:List Int)(s:Str→Int):Prop:=(ur V D C s∧Ext (aN F) s∧s v∈vals)∨qw V D C F s
def Todo(F:List Fm)(s:Str→Int):Prop:=(ur V D C s∧Ext (aN F) s)∨qw V D C F s
def kM:List Fm→Prop
 |[]=>True
 |f::F=>kM F∧f.v∈V∧f.v∉keys F∧f.a∈D f.v∧(∀u∈f.vals,u∈D f.v)∧f.a∉f.vals∧f.vals.Nodup∧∀W∈C,Dis (aN (f::F)) W
end
noncomputable def wt(N:Nat):List Fm→Nat
 |[]=>0
 |f::F=>f.vals.length*3^(N -(F.length+1))+wt N F
section
variable{V:List Str}{D:Str→List Int}{C:List (List Str)}{F:List Fm}{f:Fm}{v:Str}{a:Int}{vals:List Int}{s:Str→Int}{σ:Dz}
theorem kM.nodup:∀{F:List Fm},kM V D C F→(keys F).Nodup∧∀x∈keys F,x∈V
 |[],_=>⟨.nil,fun x hx=>(nx hx)⟩
 |f::F,h=>⟨dO.mpr ⟨h.2.2.1,h.1.nodup.1⟩,fun x hx=>(bw.mp hx).elim (fun e=>e▸h.2.1) (h.1.nodup.2 x)⟩
theorem Vp(h:f.v∉keys F):Todo V D C (f::F) s↔Ag V D C F f.v (f.vals++[f.a]) s:=by
 show(ur V D C s∧Ext (aN (f::F)) s)∨(ur V D C s∧Ext (aN F) s∧s f.v∈f.vals)∨qw V D C F s↔(ur V D C s∧Ext (aN F) s∧s f.v∈f.vals++[f.a])∨qw V D C F s;rw[ext_cons h,dc,bO];constructor
 ·rintro (⟨a,b,c⟩|⟨a,b,c⟩|p)
  ·exact .inl ⟨a,b,.inr c⟩
  ·exact .inl ⟨a,b,.inl c⟩
  ·exact .inr p
 ·rintro (⟨a,b,c|c⟩|p)
  ·exact .inr (.inl ⟨a,b,c⟩)
  ·exact .inl ⟨a,b,c⟩
  ·exact .inr (.inr p)
theorem Vq(h:f.v∉keys F)(n:∀s,ur V D C s→¬Ext (aN (f::F)) s):Ag V D C F f.v (f.vals++[f.a]) s↔Ag V D C F f.v f.vals s:=by
 unfold Ag;rw[dc,bO];constructor
 ·rintro (⟨a,b,c|c⟩|p)
  ·exact .inl ⟨a,b,c⟩
  ·exact k9 (n s a ((ext_cons h).mpr ⟨b,c⟩))
  ·exact .inr p
 ·rintro (⟨a,b,c⟩|p)
  ·exact .inl ⟨a,b,.inl c⟩
  ·exact .inr p
theorem Jv:Ag V D C F v [] s↔qw V D C F s:=by unfold Ag;simp
theorem Vr(g:Good V D C F σ)(o:kM V D C F)(hv:v∈V):Todo V D C F s↔Ag V D C F v (σ.bS v) s:=by
 delta Todo Ag;constructor
 ·rintro (⟨a,b⟩|p)
  ·exact .inl ⟨a,b,(g v hv).mem a hv o.nodup.1 b⟩
  ·exact .inr p
 ·rintro (⟨a,b,_⟩|p)
  ·exact .inl ⟨a,b⟩
  ·exact .inr p
theorem ZV(o:kM V D C F)(hv:f.v∈V)(hk:f.v∉keys F)(hd:∀u∈f.vals++[f.a],u∈D f.v)(nd:(f.vals++[f.a]).Nodup)(hD:∀W∈C,f.v∈W→Dis (aN (f::F)) W):kM V D C (f::F):=by
 obtain⟨n1,_,n3⟩:=oH.mp nd;refine⟨o,hv,hk,hd _ (cU _ (bO.mpr rfl)),fun u hu=>hd u (dD _ hu),fun h=>n3 _ h _ (bO.mpr rfl) rfl,n1,fun W hW=>?_⟩
 by_cases m:f.v∈W
 ·exact hD W hW m
 ·intro p hp q hq ne u h1 h2;rw[kg hk,au (fun(z:f.v=p)=>m (z▸hp))]at h1;rw[kg hk,au (fun(z:f.v=q)=>m (z▸hq))]at h2;cases F with
  |nil=>cases h1
  |cons g F=>exact o.2.2.2.2.2.2.2 W hW p hp q hq ne u h1 h2
noncomputable def fnOf(A:List (Str×Int))(x:Str):Int:=(dK x A).getD 0
theorem mO:Ext A (fnOf A):=fun k a h=>by unfold fnOf;rw[h];rfl
theorem kM.val:∀{F:List Fm},kM V D C F→∀{x:Str}{a:Int},dK x (aN F)=some a→a∈D x
 |[],_,_,_,h=>by cases h
 |f::F,o,x,a,h=>by
  rw[kg o.2.2.1]at h
  split at h
  ·rename_i e;cases h;rw[←e];exact o.2.2.2.1
  ·exact o.1.val h
theorem DK(o:kM V D C F)(full:∀x∈V,x∈keys F)(hC:∀W∈C,∀y∈W,y∈V):ur V D C (fnOf (aN F)):=by
 have get:∀x∈V,dK x (aN F)=some (fnOf (aN F) x):=fun x hx=>by
  have:=mP.mpr (full x hx);unfold fnOf;cases q:dK x (aN F)with
  |none=>rw[q]at this;cases this
  |some a=>rfl
 refine⟨fun x hx=>o.val (get x hx),fun W hW p hp q hq ne e=>?_⟩;cases F with
 |nil=>exact(nx (full p (hC W hW p hp)))
 |cons f F=>exact o.2.2.2.2.2.2.2 W hW p hp q hq ne _ (get p (hC W hW p hp)) (by rw[get q (hC W hW q hq),e])
theorem DM:∀{F:List Fm},kM V D C F→∀{s},qw V D C F s→¬Ext (aN F) s
 |f::F,o,s,h,e=>by
  obtain⟨e1,e2⟩:=(ext_cons o.2.2.1).mp e;rcases h with⟨_,_,h⟩|h
  ·rw[e2]at h;exact o.2.2.2.2.2.1 h
  ·exact DM o.1 h e1
structure Found(R:List (List (Str×Int)))(T:(Str→Int)→Prop):Prop where
 snd:∀A∈R,(A.map (·.1)).Perm V∧∃s,T s∧Ext A s
 all:∀s,T s→∃A∈R,Ext A s
 ne:R.Pairwise fun A B=> ∀s,Ext A s→¬Ext B s
end
theorem xJ:∀{A:List (Str×Int)},x∈A.map (·.1)→∃a,dK x A=some a
 |(k,a)::A,h=>by
  by_cases e:k=x
  ·exact⟨a,Bf e⟩
  ·exact aa (xh e) (xJ ((bw.mp h).resolve_left fun q=>e q.symm))
theorem ua(h:(A.map (·.1)).Perm V)(hs:Ext A s)(ht:Ext A t):∀x∈V,s x=t x:=fun x hx=>by
 refine eY (xJ (h.mem_iff.mpr hx)) fun a e=>?_;rw[hs x a e,ht x a e]
theorem DN:∀{F:List Fm},((aN F).map (·.1)).Perm (keys F)
 |[]=>.refl _
 |f::F=>by
  show((aN F++[(f.v,f.a)]).map (·.1)).Perm (f.v::keys F);rw[ic];exact(N9 _ _).trans ((DN (F:=F)).cons _)
section
variable{V:List Str}{D:Str→List Int}{C:List (List Str)}{F:List Fm}{R:List (List (Str×Int))}
theorem Found.iff(h:Found (V:=V) R T)(e:∀s,T' s↔T s):Found (V:=V) R T':=
 ⟨fun A hA=>let⟨p,s,a,b⟩:=h.snd A hA;⟨p,s,(e s).mpr a,b⟩,fun s hs=>h.all s ((e s).mp hs),h.ne⟩
theorem Found.nil(h:∀s,¬T s):Found (V:=V) [] T:=⟨fun A hA=>(nx hA),fun s hs=>k9 (h s hs),.nil⟩
theorem z7(o:kM V D C F)(nd:V.Nodup)(full:∀x∈V,x∈keys F):((aN F).map (·.1)).Perm V:=
 DN.trans ((N8 o.nodup.1 nd).mpr fun x=>⟨o.nodup.2 x,full x⟩)
theorem Found.cons(o:kM V D C F)(nd:V.Nodup)(full:∀x∈V,x∈keys F)(hC:∀W∈C,∀y∈W,y∈V)(h:Found (V:=V) R (qw V D C F)):Found (V:=V) (aN F::R) (Todo V D C F):=by
 refine⟨fun A hA=>?_,fun s hs=>?_,.cons (fun A hA s h1 h2=>?_) h.ne⟩
 ·rcases bw.mp hA with rfl|hA
  ·exact⟨z7 o nd full,fnOf (aN F),.inl ⟨DK o full hC,mO⟩,mO⟩
  ·obtain⟨p,s,a,b⟩:=h.snd A hA;exact⟨p,s,.inr a,b⟩
 ·rcases hs with⟨_,e⟩|p
  ·exact⟨_,cI,e⟩
  ·obtain⟨A,hA,e⟩:=h.all s p;exact⟨A,cZ _ hA,e⟩
 ·obtain⟨p,s',a,b⟩:=h.snd A hA;refine DM o a fun k v q=>?_;rw[ua p b h2 k (o.nodup.2 k (mP.mp (by rw[q];rfl)))];exact h1 k v q
end
structure Vt where
 t:Nat
 o:Nat
 d:Nat
 p:Nat
 W:List Str
structure Pb where
 L:DL
 V:List Str
 lD:Nat
 lC:Nat
 vl:Str→Nat
 vc:Str→List Vt
noncomputable def Yo(P:Pb):List (AV×AV):=P.V.map fun x=>(.str x,.loc (P.vl x))
structure IP(P:Pb)(c:Cm):Prop where
 dom:∃ep,c (.a 1)=some (P.lD,.dict (bW P.L P.V) ep)
 vcd:∃ep,c (.a 2)=some (P.lC,.dict (Yo P) ep)
 vcl:∀x∈P.V,c (.b 0 x)=some (P.vl x,.list ((P.vc x).map fun k=>.loc k.t))
 tup:∀x∈P.V,∀k∈P.vc x,c (.z k.t)=some (k.t,.tuple [.loc k.o,.loc k.p])∧c (.z k.o)=some (k.o,.inst .dN k.d)∧c (.z k.p)=some (k.p,.list (aW k.W))
def Le(c c':Cm):Prop:=∀r p,c r=some p→c' r=some p
theorem IP.mono(h:IP P c)(l:Le c c'):IP P c':=
 ⟨h.dom.elim fun e q=>⟨e,l _ _ q⟩,h.vcd.elim fun e q=>⟨e,l _ _ q⟩,fun x hx=>l _ _ (h.vcl x hx),fun x hx k hk=>let⟨a,b,d⟩:=h.tup x hx k hk;⟨l _ _ a,l _ _ b,l _ _ d⟩⟩
noncomputable def JS(P:Pb)(self cv:AV)(lA lQ:Nat)(u8 u9 fG eU gq cN cO u16:Option AV):LM:=
 [some self,some (.loc P.lD),some cv,some (.loc P.lC),some (.bool true),some (.loc lA),some (.loc lQ),none,u8,u9,fG,eU,none,gq,cN,cO,u16]
noncomputable abbrev aea:SL:=qj.tl.tl.hd.b1.hd.b1
noncomputable abbrev abu:SL:=oK.hd.b1.tl.tl.hd.b1.hd.b1
noncomputable abbrev aeb:SL:=oK.hd.b1.tl.tl.tl.hd.b1
noncomputable def iO(L:DL)(W:List Str):List AV:=W.map fun y=>.loc (L.d y)
section
variable{P:Pb}{σ:Dz}{c:Cm}{H:Hp}{n lA lQ:Nat}{self cv:AV}{u8 u9 fG eU gq cN cO u16:Option AV}{cD:Hp→Prop}
theorem Sz.pop(h:Sz V σ):Sz V (σ.pop x):=fun y hy=>by
 haveI z:=h y hy
 by_cases e:y=x
 ·subst e;rw[show(σ.pop y).bS y=σ.bS y++(σ.eN y).drop ((σ.eN y).length -((σ.fT y).getLast?.getD 0 -(σ.bS y).length))from aU,show(σ.pop y).eN y=(σ.eN y).take ((σ.eN y).length -((σ.fT y).getLast?.getD 0 -(σ.bS y).length))from aU,show(σ.pop y).fT y=(σ.fT y).dropLast from aU,bU,Nat.add_assoc,Nat.add_comm (wX (List.drop _ _)),←bU,List.take_append_drop,List.length_dropLast];exact⟨z.1,Nat.lt_of_le_of_lt (Nat.sub_le _ _) z.2⟩
 ·(refine aa ((tU e).1) (aa ((tU e).2.1) ?_);refine aa ((tU e).2.2) ?_);exact z
theorem Vs(bZ:∀{σ H},Rep (mix P.L P.V σ c) H→cD H){Γ:Prop}:∀{σ:Dz}{cN:Option AV}{H:Hp},W.Nodup→(∀y∈W,y∈P.V∧∃T k,σ.fT y=T++[(σ.bS y).length+k])→Rep (mix P.L P.V σ c) H→Sz P.V σ→
  (∀fZ H',Tn (fS (n+1) aea) (.one 14) cD (iO P.L W) (JS P self cv lA lQ u8 u9 fG eU gq cN cO u16) H none (JS P self cv lA lQ u8 u9 fG eU gq fZ cO u16) H'→Rep (mix P.L P.V (W.foldl Dz.pop σ) c) H'→Γ)→Γ:=by
 induction W with
 |nil=>exact fun{σ cN H} _ h R sz κ=>κ cN H .nil R
 |cons y W ih=>
  intro σ cN H nd h R sz κ;haveI hy:=h y cI;haveI uS:=dO.mp nd;haveI z:=sz y hy.1;refine hy.2.elim fun T hy2=>hy2.elim fun k e=>abr (n:=n) R hy.1 e (mq (Nat.lt_trans z.2 (by decide))) (mq (Nat.lt_trans z.1 (by decide))) fun H1 e1 R1=>?_;exact ih (cN:=some (.loc (P.L.d y))) uS.2 (fun x hx=>by
   haveI ne:x≠y:=fun q=>uS.1 (q▸hx)
   (refine aa ((tU ne).1) (aa ((tU ne).2.2) ?_));exact h x (cZ _ hx)) R1 sz.pop fun u H2 a b=>κ u H2 (dm fM (aS (dM (qd (aj rfl) (JQ (mV R hy.1)) (mW R hy.1) (fun _=>rfl) aq e1))) (bZ R1) a) b
theorem RE(bZ:∀{σ H},Rep (mix P.L P.V σ c) H→cD H){Γ:Prop}:∀{σ:Dz}{cN:Option AV}{H:Hp},W.Nodup→(∀y∈W,y∈P.V∧(σ.fT y).length<900)→Rep (mix P.L P.V σ c) H→
  (∀fZ H',Tn (fS (n+1) abu) (.one 14) cD (iO P.L W) (JS P self cv lA lQ u8 u9 fG eU gq cN cO u16) H none (JS P self cv lA lQ u8 u9 fG eU gq fZ cO u16) H'→Rep (mix P.L P.V (W.foldl Dz.push σ) c) H'→Γ)→Γ:=by
 induction W with
 |nil=>exact fun{σ cN H} _ h R κ=>κ cN H .nil R
 |cons y W ih=>
  intro σ cN H nd h R κ;haveI hy:=h y cI;haveI uS:=dO.mp nd;refine ZS (n:=n) R hy.1 (mq (by exact aa bU (Nat.lt_trans (Nat.succ_lt_succ hy.2) (by decide)))) fun H1 e1 R1=>?_;exact ih (cN:=some (.loc (P.L.d y))) uS.2 (fun x hx=>by
   exact aa ((Jt (σ:=σ) (fun q=>uS.1 (q▸hx):x≠y)).2.2) (h x (cZ _ hx))) R1 fun u H2 a b=>κ u H2 (dm fM (aS (dM (qd (aj rfl) (JQ (mV R hy.1)) (mW R hy.1) (fun _=>rfl) aq e1))) (bZ R1) a) b
structure aec(P:Pb)(x:Str)(k:Vt):Prop where
 h:k∈P.vc x
 w:∀y∈k.W,y∈P.V
 l:k.W.length<900
theorem RG(hx:x∈P.V)(pc:IP P c)(c0:c (.a 0)=none)(hA:c (.a 3)=some (lA,.dict (dh asg) epA))(hf:∀{σ H},Rep (mix P.L P.V σ c) H→Tr (.loc lP) H fwd)
  (bZ:∀{σ H},Rep (mix P.L P.V σ c) H→cD H) {Γ:Prop} {Ks:List Vt}:∀{σ:Dz}{cO u16:Option AV}{H:Hp},(∀k∈Ks,aec P x k)→Rep (mix P.L P.V σ c) H→Sz P.V σ→
  (∀mw mz H',Tn (fS (n+2) aeb) (.many [15,16]) cD (Ks.map fun k=>.loc k.t) (JS P self cv lA lQ u8 u9 fG eU (some (.loc lP)) cN cO u16) H (if(lE asg fwd (Ks.map Vt.W) σ).1 then none else some .next) (JS P self cv lA lQ u8 u9 fG eU (some (.loc lP)) cN mw mz) H'→
   Rep (mix P.L P.V (lE asg fwd (Ks.map Vt.W) σ).2 c) H'→Γ)→Γ:=by
 induction Ks with
 |nil=>exact fun{σ cO u16 H} h R sz κ=>κ cO u16 H .nil R
 |cons k Ks ih=>
  intro σ cO u16 H h R sz κ;haveI hk:=h k cI;haveI tp:=pc.tup x hx k hk.h;refine pc.dom.elim fun JR hD=>Ju (n:=n) (self:=.loc k.o) (fw:=.loc lP) c0 tp.2.2 rfl hA rfl hD rfl hk.w hk.l R hf sz fun H1 e1 R1 z1=>?_;haveI call:Ev (n+2) (.call (.var 15) (.cons (.var 16) (.cons (.var 1) (.cons (.var 5) (.cons (.var 13) .nil))))) (JS P self cv lA lQ u8 u9 fG eU (some (.loc lP)) cN (some (.loc k.o)) (some (.loc k.p))) H (.bool (aC asg k.W fwd σ).1) H1:=
   P5 rfl (ai (aj rfl) (ai (aj rfl) (ai (aj rfl) (ai (aj rfl) aq)))) (Wu (R.gM rfl tp.2.1) e1)
  have bd:Bt H (JS P self cv lA lQ u8 u9 fG eU (some (.loc lP)) cN cO u16) (.many [15,16]) (.loc k.t) (JS P self cv lA lQ u8 u9 fG eU (some (.loc lP)) cN (some (.loc k.o)) (some (.loc k.p))):=xg (R.gM rfl tp.1) rfl;rw[show lE asg fwd ((k::Ks).map Vt.W) σ=match aC asg k.W fwd σ with|(true,ck)=>lE asg fwd (Ks.map Vt.W) ck|(false,ck)=>(false,ck)from rfl]at κ
  generalize aC asg k.W fwd σ=r at call R1 z1 κ;obtain⟨b,ck⟩:=r;cases b with
  |false=>exact κ _ _ H1 (Hy bd (aJ (cV (gu (jP call eT)) (aJ Dd rfl)) rfl)) R1
  |true=>exact ih (cO:=some (.loc k.o)) (u16:=some (.loc k.p)) (fun k hk=>h k (cZ _ hk)) R1 z1 fun mw mz H' a b=>κ mw mz H' (dm bd (aS (bF (gu (jP call eT)) bD)) (bZ R1) a) b
end
section
variable{V:List Str}{D:Str→List Int}{C:List (List Str)}{F:List Fm}{f:Fm}
theorem Vu:∀{W:List Str}{σ:Dz},W.Nodup→(∀y∈V,(y∈W→y∈un V (f::F)∧cW V D C (f::F) y (σ.bS y) (σ.eN y) (σ.fT y))∧(y∉W→cW V D C F y (σ.bS y) (σ.eN y) (σ.fT y)∧(y∈un V (f::F)→σ.bS y≠[])))→
  Good V D C F (W.foldl Dz.pop σ)∧∀y∈un V (f::F),(W.foldl Dz.pop σ).bS y≠[]:=by
 intro rv
 induction rv with
 |nil=>
  intro σ _ h;exact⟨fun y hy=>((h y hy).2 (fun q=>(nx q))).1,fun y hy=>((h y (jQ.mp hy).1).2 (fun q=>(nx q))).2 hy⟩
 |cons x W ih=>
  intro σ nd h;have uS:=dO.mp nd;refine ih (σ:=σ.pop x) uS.2 fun y hy=>?_
  by_cases e:y=x
  ·subst e;refine iK ((h y hy).1 cI) fun hu g=>?_;refine vS (g.pop hu) fun _ g1 g2=>?_;exact⟨fun q=>k9 (uS.1 q),fun _=>⟨g1,fun _=>g2⟩⟩
  ·refine vS (tU (σ:=σ) e) fun e1 e2 e3=>?_
   (refine aa e1 (aa e2 ?_);refine aa e3 ?_)
   exact⟨fun q=>(h y hy).1 (cZ _ q),fun q=>(h y hy).2 (fun z=>(bw.mp z).elim e q)⟩
theorem RH:∀{W:List Str}{σ:Dz},W.Nodup→(∀y∈V,(y∈W→y∈un V (f::F)∧cW V D C F y (σ.bS y) (σ.eN y) (σ.fT y))∧(y∉W→cW V D C (f::F) y (σ.bS y) (σ.eN y) (σ.fT y)))→(∀y∈un V (f::F),σ.bS y≠[])→
  Good V D C (f::F) (W.foldl Dz.push σ)∧NE V (f::F) (W.foldl Dz.push σ):=by
 intro rv
 induction rv with
 |nil=>
  intro σ _ h ne;exact⟨fun y hy=>(h y hy).2 (fun q=>(nx q)),ne⟩
 |cons x W ih=>
  intro σ nd h ne;haveI uS:=dO.mp nd;refine ih (σ:=σ.push x) uS.2 (fun y hy=>?_) ne
  by_cases e:y=x
  ·subst e;refine iK ((h y hy).1 cI) fun hu g=>?_;refine⟨fun q=>k9 (uS.1 q),fun _=>?_⟩;haveI:=g.push hu (ne y hu);exact aa (show(σ.push y).fT y=σ.fT y++[(σ.bS y).length]from aU) this
  ·refine vS (Jt (σ:=σ) e) fun e1 e2 e3=>?_
   (refine aa e1 (aa e2 ?_);refine aa e3 ?_)
   exact⟨fun q=>(h y hy).1 (cZ _ q),fun q=>(h y hy).2 (fun z=>(bw.mp z).elim e q)⟩
theorem Good.sz(g:Good V D C F σ)(hD:∀x∈V,(D x).length<900)(hF:F.length<900):Sz V σ:=fun y hy=>by
 refine iK ((g y hy).all) fun h1 h2=>?_;haveI h3:=h1.length_eq;haveI:=hD y hy;rw[bU]at h3;exact⟨by lia,by lia⟩
end
structure Kn(P:Pb)(D:Str→List Int)(C:List (List Str)):Prop where
 Xu:P.V.Nodup
 nV:P.V.length<60
 szD:∀x∈P.V,(D x).length≤2∧(D x).Nodup
 vcC:∀x∈P.V,∀k∈P.vc x,k.W∈C
 vcA:∀x∈P.V,∀W∈C,x∈W→W∈(P.vc x).map Vt.W
 hC:∀W∈C,W.Nodup∧∀y∈W,y∈P.V
 sC:∀W∈C,W.length<900
theorem rY(h:V.Nodup):(un V F).Nodup:=h.filter _
theorem Iv:(iO L W).isEmpty=decide (W=[]):=by cases W<;>rfl
noncomputable abbrev aed:S:=qj.tl.tl.hd
noncomputable abbrev pushS:S:=oK.hd.b1.tl.tl.hd
structure Gx where
 P:Pb
 D:Str→List Int
 C:List (List Str)
 lA:Nat
 lQ:Nat
 n:Nat
 self:AV
 cv:AV
noncomputable abbrev Gx.lm(X:Gx)(u8 u9 fG eU gq cN cO u16:Option AV):LM:=JS X.P X.self X.cv X.lA X.lQ u8 u9 fG eU gq cN cO u16
abbrev Gx.rep(X:Gx)(σ:Dz)(c:Cm)(H:Hp):Prop:=Rep (mix X.P.L X.P.V σ c) H
abbrev Gx.good(X:Gx)(F:List Fm)(σ:Dz):Prop:=Good X.P.V X.D X.C F σ
noncomputable abbrev Gx.un(X:Gx)(F:List Fm):List Str:=qo.un X.P.V F
structure Gk(X:Gx)(c0:Cm):Prop where
 K:Kn X.P X.D X.C
 pc:IP X.P c0
section
variable{X:Gx}{F:List Fm}{f:Fm}{σ:Dz}{c c0:Cm}{H:Hp}{pl:Nat}{u8 u9 fG eU cN cO u16:Option AV}
theorem BL(R:X.rep σ c H)(hp:c (.z pl)=some (pl,.list (iO X.P.L W))):Tr (.loc pl) H (decide (W≠[])):=by
 haveI:=nE (R.gM rfl hp);rw[Iv]at this;exact aa decide_not this
theorem Nz(K:Kn X.P X.D X.C)(hF:F.length<899)(R:X.rep σ c H)(hp:c (.z pl)=some (pl,.list (iO X.P.L (X.un (f::F)))))(g:X.good (f::F) σ){Γ:Prop}(κ:∀fZ H' ck,En (X.n+2) aed (X.lm u8 u9 fG eU (some (.loc pl)) cN cO u16) H .next (X.lm u8 u9 fG eU (some (.loc pl)) fZ cO u16) H'→X.rep ck c H'→X.good F ck→(∀y∈X.un (f::F),ck.bS y≠[])→Γ):Γ:=by
 haveI tr:=BL R hp;have ga:=Vu (W:=X.un (f::F)) (σ:=σ) (rY K.Xu) fun y hy=>⟨fun q=>⟨q,g y hy⟩,fun q=>⟨(cW.acn q).mp (g y hy),fun q'=>k9 (q q')⟩⟩
 by_cases e:X.un (f::F)=[]
 ·rw[e]at tr ga;refine κ cN H σ (bF (fB rfl tr) bD) R ga.1 (fun y hy=>?_);rw[e]at hy;exact(nx hy)
 ·rw[bN e]at tr;refine Vs (n:=X.n+1) (self:=X.self) (cv:=X.cv) (lA:=X.lA) (lQ:=X.lQ) (u8:=u8) (u9:=u9) (fG:=fG) (eU:=eU) (gq:=some (.loc pl)) (cN:=cN) (cO:=cO) (u16:=u16) (cD:=gW H pl) (W:=X.un (f::F)) (fun R'=>bq (R.gM rfl hp) (R'.gM rfl hp) rfl) (rY K.Xu) (fun y hy=>⟨(jQ.mp hy).1,((g y (jQ.mp hy).1).pop hy).1⟩) R (g.sz (fun x hx=>Nat.lt_of_le_of_lt (K.szD x hx).1 (by decide)) (Nat.succ_lt_succ hF)) fun u H' a b=>?_;exact κ u H' _ (cV (fB rfl tr) (aS (gS (aj rfl) (bL (R.gM rfl hp)) a bD))) b ga.1 ga.2
theorem ZW(K:Kn X.P X.D X.C)(hF:F.length<899)(R:X.rep σ c H)(hp:c (.z pl)=some (pl,.list (iO X.P.L (X.un (f::F)))))(g:X.good F σ)(ne:∀y∈X.un (f::F),σ.bS y≠[]){Γ:Prop}(κ:∀fZ H' ck,En (X.n+2) pushS (X.lm u8 u9 fG eU (some (.loc pl)) cN cO u16) H .next (X.lm u8 u9 fG eU (some (.loc pl)) fZ cO u16) H'→X.rep ck c H'→X.good (f::F) ck→NE X.P.V (f::F) ck→Γ):Γ:=by
 haveI tr:=BL R hp;have ga:=RH (W:=X.un (f::F)) (σ:=σ) (rY K.Xu) (fun y hy=>⟨fun q=>⟨q,g y hy⟩,fun q=>(cW.acn q).mpr (g y hy)⟩) ne
 by_cases e:X.un (f::F)=[]
 ·rw[e]at tr ga;exact κ cN H σ (bF (fB rfl tr) bD) R ga.1 ga.2
 ·rw[bN e]at tr;haveI sz:=g.sz (fun x hx=>Nat.lt_of_le_of_lt (K.szD x hx).1 (by decide)) (Nat.lt_succ_of_lt hF);refine RE (n:=X.n+1) (self:=X.self) (cv:=X.cv) (lA:=X.lA) (lQ:=X.lQ) (u8:=u8) (u9:=u9) (fG:=fG) (eU:=eU) (gq:=some (.loc pl)) (cN:=cN) (cO:=cO) (u16:=u16) (cD:=gW H pl) (W:=X.un (f::F)) (fun R'=>bq (R.gM rfl hp) (R'.gM rfl hp) rfl) (rY K.Xu) (fun y hy=>⟨(jQ.mp hy).1,(sz y (jQ.mp hy).1).2⟩) R fun u H' a b=>?_;exact κ u H' _ (cV (fB rfl tr) (aS (gS (aj rfl) (bL (R.gM rfl hp)) a bD))) b ga.1 ga.2
end
noncomputable def qs(F:List Fm):List AV:=F.reverse.map fun f=>.loc f.t
theorem BO:qs (f::F)=qs F++[.loc f.t]:=by simp[qs]
def Tg(P:Pb)(c:Cm):List Fm→Prop
 |[]=>True
 |f::F=>Tg P c F∧c (.z f.t)=some (f.t,.tuple [.str f.v,.loc f.vl,.loc f.pl])∧c (.z f.pl)=some (f.pl,.list (iO P.L (un P.V (f::F))))∧c (.d 5 F.length)=some (f.vl,.list (aO f.vals))
theorem Tg.up(h1:r.nz=true):∀{F:List Fm},(∀k,k<F.length→r≠.d 5 k)→Tg P c F→Tg P (c.up r p) F
 |[],_,_=>trivial
 |f::F,h,x=>by
  haveI nz:∀l,Ro.z l≠r:=fun l q=>by rw[←q]at h1;cases h1
  exact⟨x.1.up h1 fun k hk=>h k (Nat.lt_succ_of_lt hk),(aX (nz _)).trans x.2.1,(aX (nz _)).trans x.2.2.1,(aX (h F.length (Nat.lt_succ_self _)).symm).trans x.2.2.2⟩
theorem Tg.mono(l:Le c c'):∀{F:List Fm},Tg P c F→Tg P c' F
 |[],_=>trivial
 |f::F,x=>⟨x.1.mono l,l _ _ x.2.1,l _ _ x.2.2.1,l _ _ x.2.2.2⟩
theorem Le.up(h:Le c0 c)(n:c0 r=none):Le c0 (c.up r p):=fun r' q e=>by
 rw[aX]
 ·exact h r' q e
 ·rintro rfl;rw[n]at e;cases e
theorem jG(n:c r=none):Le c (c.up r p):=Le.up (fun _ _ e=>e) n
theorem Le.trans(h:Le a b)(k:Le b c):Le a c:=fun r p e=>k r p (h r p e)
theorem Le.none(h:Le a b)(n:b r=none):a r=none:=by
 cases q:a r with
 |none=>rfl
 |some p=>rw[h r p q]at n;cases n
structure vo(c:Cm):Prop where
 a0:c (.a 0)=none
 a3:c (.a 3)=none
 a4:c (.a 4)=none
 a5:c (.a 5)=none
 d5:∀k,c (.d 5 k)=none
structure Bs(X:Gx)(c0:Cm)(A:List (Str×Int))(F:List Fm)(σ:Dz)(c:Cm)(H:Hp):Prop where
 rep:X.rep σ c H
 le:Le c0 c
 n0:c (.a 0)=none
 asg:∃ep,c (.a 3)=some (X.lA,.dict (dh A) ep)
 EV:c (.a 4)=some (X.lQ,.list (qs F))
 fr:Tg X.P c F
 ok:kM X.P.V X.D X.C F
noncomputable def fv(v:Str):Fm:=⟨v,0,[],0,0,0⟩
structure Mx(X:Gx)(c0:Cm)(A:List (Str×Int))(F:List Fm)(v:Str)(vals:List Int)(vl pl:Nat)(σ:Dz)(c:Cm)(H:Hp):Prop extends Bs X c0 A F σ c H where
 good:X.good F σ
 ne:∀y∈X.un (fv v::F),σ.bS y≠[]
 hp:c (.z pl)=some (pl,.list (iO X.P.L (X.un (fv v::F))))
 EK:c (.d 5 F.length)=some (vl,.list (aO vals))
 hv:v∈X.P.V
 hk:v∉keys F
 hd:∀u∈vals,u∈X.D v
 nd:vals.Nodup
inductive J9(X:Gx)(c0:Cm)(H:Hp):Prop
 |mk (σ:Dz) (c:Cm) (rep:X.rep σ c H) (le:Le c0 c) (good:X.good [] σ)
noncomputable def me(X:Gx)(F:List Fm)(k:Nat):Nat:=wt X.P.V.length F+k*3^(X.P.V.length -(F.length+1))
noncomputable def mu(X:Gx)(F:List Fm):Nat:=wt X.P.V.length F+3^(X.P.V.length -F.length)
section
variable{X:Gx}{A:List (Str×Int)}{F:List Fm}{f:Fm}{σ:Dz}{c c0:Cm}{H:Hp}{k:Nat}{u8 u9 eU gq cN cO u16:Option AV}
theorem acr:me X F (k+1)=me X F k+3^(X.P.V.length -(F.length+1)):=by unfold me;rw[Nat.succ_mul,Nat.add_assoc]
theorem abv:me X F k<me X F (k+1):=by exact aa acr (Nat.lt_add_of_pos_right (Nat.pow_pos (by decide)))
theorem acs:me X F 0=wt X.P.V.length F:=by unfold me;rw[Nat.zero_mul];rfl
theorem vK:wt X.P.V.length (f::F)=me X F f.vals.length:=Nat.add_comm _ _
theorem Vv:mu X (f::F)=me X F (f.vals.length+1):=by(refine aa acr (ez vK ?_));rfl
theorem kM.len(o:kM V D C F):F.length≤V.length:=by
 haveI:=o.nodup.1.length_le_of_subset fun x hx=>o.nodup.2 x hx;unfold keys at this;rw[bR]at this;exact this
theorem Gk.lt(G:Gk X c0)(o:kM X.P.V X.D X.C F):F.length<60:=Nat.lt_of_le_of_lt o.len G.K.nV
theorem Gk.lt'(G:Gk X c0)(o:kM X.P.V X.D X.C F):F.length<899:=Nat.lt_trans (G.lt o) (by decide)
theorem Gk.ltL(G:Gk X c0)(o:kM X.P.V X.D X.C F)(h:k≤F.length+1):k<bQ:=Nat.lt_of_le_of_lt h (Nat.lt_trans (Nat.succ_lt_succ (G.lt o)) (by decide))
theorem Gk.lt8(G:Gk X c0)(o:kM X.P.V X.D X.C F):F.length<898:=Nat.lt_trans (G.lt o) (by decide)
theorem Bs.acu(B:Bs X c0 A F σ c H)(z:vo c0)(A':List (Str×Int))(ep:Nat)(sm:A'.length<bQ){Γ:Prop}(κ:∀H' c',Pt X.lA (.dict (dh A') ep) H H'→Bs X c0 A' F σ c' H'→(∀r,r≠.a 3→c' r=c r)→Γ):Γ:=
 B.asg.elim fun e h=>B.rep.jM h rfl (.dict (dh A') ep) (by show(jN _ _).length<bQ;rw[bR];exact sm) fun H' p R=>
  κ H' _ p ⟨R,B.le.up z.a3,aL B.n0 rfl,⟨ep,up_eq⟩,aL B.EV rfl,B.fr.up rfl (fun k _ q=>(nomatch q)),B.ok⟩ (fun r q=>aX q)
theorem Bs.acv(B:Bs X c0 A F σ c H)(z:vo c0)(hF:Tg X.P c F')(hok:kM X.P.V X.D X.C F')(sm:F'.length<bQ){Γ:Prop}(κ:∀H' c',Pt X.lQ (.list (qs F')) H H'→Bs X c0 A F' σ c' H'→(∀r,r≠.a 4→c' r=c r)→Γ):Γ:=
 B.rep.jM B.EV rfl (.list (qs F')) (by show(jN _ _).length<bQ;rw[bR,List.length_reverse];exact sm) fun H' p R=>
  κ H' _ p ⟨R,B.le.up z.a4,aL B.n0 rfl,B.asg.imp fun e h=>aL h rfl,up_eq,hF.up rfl (fun k _ q=>(nomatch q)),hok⟩ (fun r q=>aX q)
theorem DP:∀{A:List (Str×Int)},dK v A=none→yx (.str v) (dh (A++[(v,a)]))=dh A
 |[],_=>aF rfl
 |(k,b)::A,h=>by
  haveI ne:k≠v:=fun q=>no1 ((Bf q).symm.trans h);haveI h':dK v A=none:=(xh ne).symm.trans h;show(if AV.str k=.str v then dh (A++[(v,a)])else(.str k,.int b)::yx (.str v) (dh (A++[(v,a)])))=_
  (refine aa (au (fun q=>ne (AV.str.inj q))) (aa (DP h') ?_));rfl
theorem LU(h:dK v A=none):dK v (A++[(v,a)])=some a:=by rw[t9,h,aF rfl];rfl
theorem vL:∀{F:List Fm},(aN F).length=F.length
 |[]=>rfl
 |f::F=>by show(aN F++[_]).length=_;(refine aa bU (aa vL ?_));rfl
theorem Jw{v:Str}(B:Bs X c0 (aN F++[(v,a)]) F σ c H)(G:Gk X c0)(z:vo c0)(hk:v∉keys F){Γ:Prop}(κ:∀H' c',En (X.n+2) (.tP (.var 5) (.var 10)) (X.lm u8 u9 (some (.str v)) eU gq cN cO u16) H .next (X.lm u8 u9 (some (.str v)) eU gq cN cO u16) H'→Bs X c0 (aN F) F σ c' H'→Γ):Γ:=by
 refine B.asg.elim fun ep h=>B.acu z (aN F) (ep+1) (by exact aa vL (G.ltL B.ok (Nat.le_succ _))) fun H' c' p B' k=>?_;rw[←DP (a:=a) (j9 hk)]at p;refine κ H' c' (ZA (aj rfl) (aj rfl) (ad7 (B.rep.gM rfl h) ⟨rfl,?_⟩ p)) B'
 (refine aa pC (aa (LU (j9 hk)) ?_));rfl
noncomputable abbrev ND:SL:=oK.hd.b1.hd.b1.tl.hd.b1
theorem WW(h:H[X.lQ]? =some (.list (qs (f::F)))):Tr (.loc X.lQ) H true:=by
 haveI:=nE h
 rwa [BO,show(qs F++[AV.loc f.t]).isEmpty=false by cases qs F<;>rfl]at this
theorem Bs.acw(B:Bs X c0 A (f::F) σ c H)(G:Gk X c0)(z:vo c0){Γ:Prop}(κ:∀H' c',En (X.n+2) (.kD [10,11,13] (.cQ (.var 6) .pop .nil)) (X.lm u8 u9 fG eU gq cN cO u16) H .next (X.lm u8 u9 (some (.str f.v)) (some (.loc f.vl)) (some (.loc f.pl)) cN cO u16) H'→Bs X c0 A F σ c' H'→c' (.z f.pl)=some (f.pl,.list (iO X.P.L (X.un (f::F))))→c' (.d 5 F.length)=some (f.vl,.list (aO f.vals))→Γ):Γ:=by
 haveI hq:=B.rep.gM rfl B.EV;rw[BO]at hq;refine B.acv (F':=F) z B.fr.1 B.ok.1 (G.ltL B.ok (Nat.le_succ_of_le (Nat.le_succ _))) fun H1 c1 p1 B1 k1=>?_;exact κ H1 c1 (WC (d9 (aj rfl) (gG hq rfl) aq (Nv (yW hq) p1)) (B1.rep.gM rfl ((k1 (.z f.t) nofun).trans B.fr.2.1)) rfl) B1 ((k1 (.z f.pl) nofun).trans B.fr.2.2.1) ((k1 (.d 5 F.length) nofun).trans B.fr.2.2.2)
theorem Bs.rdy(ok:kM X.P.V X.D X.C (f::F))(B1:Bs X c0 (aN (f::F)) F σ c1 H)(h2:c1 (.z f.pl)=some (f.pl,.list (iO X.P.L (X.un (f::F)))))(h3:c1 (.d 5 F.length)=some (f.vl,.list (aO f.vals)))(R:X.rep ck c1 H')(g:X.good F ck)(ne:∀y∈X.un (f::F),ck.bS y≠[]):
  Mx X c0 (aN F++[(f.v,f.a)]) F f.v f.vals f.vl f.pl ck c1 H':={B1 with rep:=R,good:=g,ne:=ne,hp:=h2,EK:=h3,hv:=ok.2.1,hk:=ok.2.2.1,hd:=ok.2.2.2.2.1,nd:=ok.2.2.2.2.2.2.1}
theorem RJ(G:Gk X c0)(z:vo c0){Γ:Prop}{F:List Fm}:∀{σ:Dz}{c:Cm}{H:Hp}{fG eU gq cN:Option AV},Bs X c0 (aN F) F σ c H→X.good F σ→
  (∀Fd Ff Fg fZ H',Xj (X.n+2) (.var 6) ND (F.length+1) (X.lm u8 u9 fG eU gq cN cO u16) H none (X.lm u8 u9 Fd Ff Fg fZ cO u16) H'→(∀s,¬qw X.P.V X.D X.C F s)→J9 X c0 H'→Γ)→
  (∀F1 (f:Fm) ck c' fZ H',Xj (X.n+2) (.var 6) ND (F.length+1) (X.lm u8 u9 fG eU gq cN cO u16) H (some .next) (X.lm u8 u9 (some (.str f.v)) (some (.loc f.vl)) (some (.loc f.pl)) fZ cO u16) H'→
   Mx X c0 (aN F1++[(f.v,f.a)]) F1 f.v f.vals f.vl f.pl ck c' H'→f.vals≠[]→(∀s,qw X.P.V X.D X.C F s↔Ag X.P.V X.D X.C F1 f.v f.vals s)→wt X.P.V.length F=me X F1 f.vals.length→Γ)→Γ:=by
 induction F with
 |nil=>exact fun{σ c H fG eU gq cN} B g eS _=>eS _ _ _ _ H (Vi (fB rfl (nE (B.rep.gM rfl B.EV)))) (fun s q=>q) ⟨σ,c,B.rep,B.le,g⟩
 |cons f F ih=>
  intro σ c H fG eU gq cN B g eS fK;have tt:Te (X.n+2) (.var 6) (X.lm u8 u9 fG eU gq cN cO u16) H true H:=fB rfl (WW (B.rep.gM rfl B.EV));refine B.acw (u8:=u8) (u9:=u9) (fG:=fG) (eU:=eU) (gq:=gq) (cN:=cN) (cO:=cO) (u16:=u16) G z fun H1 c1 asg B1 h2 h3=>Nz (u8:=u8) (u9:=u9) (fG:=some (.str f.v)) (eU:=some (.loc f.vl)) (cN:=cN) (cO:=cO) (u16:=u16) G.K (G.lt' B1.ok) B1.rep h2 g fun fZ H2 vp e2 R2 g2 ne2=>?_;haveI rd:=Bs.rdy B.ok B1 h2 h3 R2 g2 ne2;have tv:=nE (R2.gM (r:=.d 5 F.length) rfl h3);rw[mQ]at tv
  by_cases e:f.vals=[]
  ·rw[bN e]at tv;have pe:∀s,qw X.P.V X.D X.C (f::F) s↔qw X.P.V X.D X.C F s:=fun s=>by
    show _∨_↔_;refine aa e ?_;simp
   refine Jw (u8:=u8) (u9:=u9) (eU:=some (.loc f.vl)) (gq:=some (.loc f.pl)) (cN:=fZ) (cO:=cO) (u16:=u16) rd.toBs G z B.ok.2.2.1 fun H3 c3 e3 B3=>?_;have nx:fS (X.n+2) ND (X.lm u8 u9 fG eU gq cN cO u16) H .next _ H3:=aA asg (aA e2 (aA (bF (fB rfl tv) bD) (aS e3)));refine ih B3 g2 (fun a b d x H' o1 o2 o3=>eS a b d x H' (vJ tt nx o1) (fun s q=>o2 s ((pe s).mp q)) o3) fun F1 f1 ck c' x H' o1 o2 o3 o4 o5=>fK F1 f1 ck c' x H' (vJ tt nx o1) o2 o3 (fun s=>(pe s).trans (o4 s)) ?_
   (refine aa vK (aa e ?_));exact acs.trans o5
  ·rw[bP e]at tv;exact fK F f vp c1 fZ H2 (Qm tt (aA asg (aA e2 (aJ (cV (fB rfl tv) (aJ Dd rfl)) rfl)))) rd e (fun s=>A4) vK
end
theorem DQ:∀{A:List (Str×Int)},dK v A=none→dput (.str v) (.int a) (dh A)=dh (A++[(v,a)])
 |[],_=>rfl
 |(k,b)::A,h=>by
  haveI ne:k≠v:=fun q=>no1 ((Bf q).symm.trans h);haveI h':dK v A=none:=(xh ne).symm.trans h;show(if AV.str k=.str v then(.str k,.int a)::dh A else(.str k,.int b)::dput (.str v) (.int a) (dh A))=_
  (refine aa (au (fun q=>ne (AV.str.inj q))) (aa (DQ h') ?_));rfl
theorem DR:∀{A:List (Str×Int)},dK v A=none→dput (.str v) (.int a) (dh (A++[(v,b)]))=dh (A++[(v,a)])
 |[],_=>aF rfl
 |(k,c)::A,h=>by
  haveI ne:k≠v:=fun q=>no1 ((Bf q).symm.trans h);haveI h':dK v A=none:=(xh ne).symm.trans h;show(if AV.str k=.str v then(.str k,.int a)::dh (A++[(v,b)])else(.str k,.int c)::dput (.str v) (.int a) (dh (A++[(v,b)])))=_
  (refine aa (au (fun q=>ne (AV.str.inj q))) (aa (DR h') ?_));rfl
theorem Jx(h:y∈P.V):dJ (.str y) (Yo P)=some (.loc (P.vl y)):=by
 unfold Yo;generalize P.V=V at h
 induction V with
 |nil=>exact(nx h)
 |cons x V ih=>
  show(if AV.str x=.str y then some (AV.loc (P.vl x))else dJ (.str y) (V.map fun x=>(.str x,.loc (P.vl x))))=_
  by_cases e:x=y
  ·(refine aa (aF (aR _ e)) (aa e ?_);with_reducible rfl)
  ·(refine aa (au (fun q=>e (AV.str.inj q))) (aa (ih ((bw.mp h).resolve_left (fun q=>e q.symm))) ?_);with_reducible rfl)
structure Ac(X:Gx)(c0:Cm)(F:List Fm)(f:Fm)(σ:Dz)(c:Cm)(H:Hp):Prop extends Bs X c0 (aN (f::F)) F σ c H where
 good:X.good (f::F) σ
 ne:NE X.P.V (f::F) σ
 hp:c (.z f.pl)=some (f.pl,.list (iO X.P.L (X.un (f::F))))
 EK:c (.d 5 F.length)=some (f.vl,.list (aO f.vals))
 ok':kM X.P.V X.D X.C (f::F)
inductive Ao(A:List (Str×Int))(F:List Fm)(v:Str):Prop
 |l (h:A=aN F)
 |r (b:Int) (h:A=aN F++[(v,b)])
section
variable{X:Gx}{A:List (Str×Int)}{F:List Fm}{f:Fm}{σ:Dz}{c c0:Cm}{H:Hp}{pl vl:Nat}{v:Str}{a:Int}{vals:List Int}{u8 u9 cN cO u16:Option AV}
noncomputable abbrev wB:SL:=oK.hd.b1
theorem Vx(nk:dK v (aN F)=none)(hA:Ao A F v):dput (.str v) (.int a) (dh A)=dh (aN F++[(v,a)]):=by
 cases hA with
 |l h=>exact aa h (DQ nk)
 |r b h=>exact aa h (DR nk)
theorem Good.sz'(G:Gk X c0)(g:X.good F σ)(hF:F.length<900):Sz X.P.V σ:=g.sz (fun x hx=>Nat.lt_of_le_of_lt (G.K.szD x hx).1 (by decide)) hF
theorem Mx.take(G:Gk X c0)(z:vo c0)(S:Mx X c0 A F v (vals++[a]) vl pl σ c H)(hA:Ao A F v){Γ:Prop}
  (κ:∀H2 c2,En (X.n+2) (.lg (.var 5) (.var 10) (.cQ (.var 11) .pop .nil)) (X.lm u8 u9 (some (.str v)) (some (.loc vl)) (some (.loc pl)) cN cO u16) H .next (X.lm u8 u9 (some (.str v)) (some (.loc vl)) (some (.loc pl)) cN cO u16) H2→
   Bs X c0 (aN F++[(v,a)]) F σ c2 H2→c2 (.z pl)=some (pl,.list (iO X.P.L (X.un (⟨v,a,vals,0,vl,pl⟩::F))))→c2 (.d 5 F.length)=some (vl,.list (aO vals))→Γ):Γ:=by
 haveI sv:vals.length<bQ:=by
  haveI h1:(vals++[a]).length≤(X.D v).length:=S.nd.length_le_of_subset fun u hu=>S.hd u hu;rw[bU]at h1;exact Nat.lt_of_le_of_lt (Nat.le_trans (Nat.le_add_right _ _) (Nat.le_trans h1 (G.K.szD v S.hv).1)) (by decide)
 haveI EK:=S.rep.gM rfl S.EK;rw[show aO (vals++[a])=aO vals++[.int a]from(ints_snoc _ _).symm]at EK;refine S.asg.elim fun ep ha=>S.rep.jM S.EK rfl (.list (aO vals)) (dH sv) fun H1 p1 R1=>?_;haveI B1:Bs X c0 A F σ (c.up (.d 5 F.length) (vl,.list (aO vals))) H1:=⟨R1,S.le.up (z.d5 _),aL S.n0 rfl,⟨ep,aL ha rfl⟩,aL S.EV rfl,S.fr.up rfl (fun k hk q=>by cases q;exact Nat.lt_irrefl _ hk),S.ok⟩;refine B1.acu z (aN F++[(v,a)]) (if(dJ (.str v) (dh A)).isSome then ep else ep+1) (by(refine aa bU (aa vL ?_));exact G.ltL S.ok (Nat.le_refl _)) fun H2 c2 p2 B2 k2=>?_
 rw[←Vx (j9 S.hk) hA]at p2;exact κ H2 c2 (zA (d9 (aj rfl) (gG EK rfl) aq (Nv (yW EK) p1)) (aj rfl) (aj rfl) (J8 (R1.gM (r:=.a 3) rfl (aL ha rfl)) rfl p2)) B2 ((k2 (.z pl) nofun).trans (aL S.hp rfl)) ((k2 (.d 5 F.length) nofun).trans up_eq)
theorem Vy(G:Gk X c0)(z:vo c0)(S:Mx X c0 A F v (vals++[a]) vl pl σ c H)(hA:Ao A F v){Γ:Prop}
  (eS:∀fZ mw mz H' c' ck,fS (X.n+2) wB.tl (X.lm u8 u9 (some (.str v)) (some (.loc vl)) (some (.loc pl)) cN cO u16) H .brk (X.lm u8 u9 (some (.str v)) (some (.loc vl)) (some (.loc pl)) fZ mw mz) H'→Ac X c0 F ⟨v,a,vals,0,vl,pl⟩ ck c' H'→Γ)
  (fK:∀fZ mw mz H' c' ck,fS (X.n+2) wB.tl (X.lm u8 u9 (some (.str v)) (some (.loc vl)) (some (.loc pl)) cN cO u16) H .next (X.lm u8 u9 (some (.str v)) (some (.loc vl)) (some (.loc pl)) fZ mw mz) H'→Mx X c0 (aN F++[(v,a)]) F v vals vl pl ck c' H'→(∀s,ur X.P.V X.D X.C s→¬Ext (aN (⟨v,a,vals,0,vl,pl⟩::F)) s)→Γ):Γ:=by
 refine S.take (u8:=u8) (u9:=u9) (cN:=cN) (cO:=cO) (u16:=u16) G z hA fun H2 c2 st1 B2 EX hv2=>?_;refine ZW (u8:=u8) (u9:=u9) (fG:=some (.str v)) (eU:=some (.loc vl)) (cN:=cN) (cO:=cO) (u16:=u16) G.K (G.lt' S.ok) B2.rep EX S.good S.ne fun fZ H3 σ3 e3 R3 g3 ne3=>?_;haveI cg:=Ey (fwd:=decide (X.un (⟨v,a,vals,0,vl,pl⟩::F)≠[])) (dO.mpr ⟨S.hk,S.ok.nodup.1⟩:(keys (⟨v,a,vals,0,vl,pl⟩::F)).Nodup) G.K.hC (Ws:=(X.P.vc v).map Vt.W) (fun W hW=>by
  refine bE (bX.mp hW) fun k hk fF=>?_;subst fF;exact G.K.vcC v S.hv k hk) g3 ne3
 have pc2:=G.pc.mono B2.le;haveI hvc:=pc2.vcl v S.hv;refine B2.asg.elim fun ep2 ha2=>pc2.vcd.elim fun epC hC2=>RG (n:=X.n) (self:=X.self) (cv:=X.cv) (lQ:=X.lQ) (u8:=u8) (u9:=u9) (fG:=some (.str v)) (eU:=some (.loc vl)) (cN:=fZ) (cO:=cO) (u16:=u16) (cD:=gW H3 (X.P.vl v)) (fwd:=decide (X.un (⟨v,a,vals,0,vl,pl⟩::F)≠[])) S.hv pc2 B2.n0 ha2 (fun R=>BL R EX) (fun R=>bq (R3.gM rfl hvc) (R.gM rfl hvc) rfl) (Ks:=X.P.vc v) (fun k hk=>⟨hk,(G.K.hC _ (G.K.vcC v S.hv k hk)).2,G.K.sC _ (G.K.vcC v S.hv k hk)⟩) R3 (Good.sz' G g3 (Nat.succ_lt_succ (G.lt' S.ok))) fun mw mz H4 e4 R4=>?_;haveI itv:Ev (X.n+2) (.sub (.var 3) (.var 10)) (X.lm u8 u9 (some (.str v)) (some (.loc vl)) (some (.loc pl)) fZ cO u16) H3 (.loc (X.P.vl v)) H3:=gR (aj rfl) (aj rfl) (oW (R3.gM rfl hC2) (Jx S.hv));rw[show aN F++[(v,a)]=aN (⟨v,a,vals,0,vl,pl⟩::F)from rfl]at e4 R4;generalize lE (aN (⟨v,a,vals,0,vl,pl⟩::F)) (decide (X.un (⟨v,a,vals,0,vl,pl⟩::F)≠[])) ((X.P.vc v).map Vt.W) σ3=r at cg e4 R4;obtain⟨b,σ4⟩:=r;have B4:Bs X c0 (aN F++[(v,a)]) F σ4 c2 H4:={B2 with rep:=R4};cases b with
 |true=>exact eS fZ mw mz H4 c2 σ4 (aA st1 (aA e3 (aJ (gS itv (bL (R3.gM rfl hvc)) e4 (aJ Dd rfl)) rfl))) {B4 with good:=cg.g,ne:=cg.t rfl,hp:=EX,EK:=hv2,ok':=ZV S.ok S.hv S.hk S.hd S.nd fun W hW hm=>cg.d rfl W (G.K.vcA v S.hv W hW hm)}
 |false=>
  refine Nz (u8:=u8) (u9:=u9) (fG:=some (.str v)) (eU:=some (.loc vl)) (cN:=fZ) (cO:=mw) (u16:=mz) G.K (G.lt' S.ok) R4 EX cg.g fun u H5 σ5 e5 R5 g5 ne5=>?_;exact fK u mw mz H5 c2 σ5 (aA st1 (aA e3 (aA (qF itv (bL (R3.gM rfl hvc)) e4) (aS e5)))) {B4 with rep:=R5,good:=g5,ne:=ne5,hp:=EX,EK:=hv2,hv:=S.hv,hk:=S.hk,hd:=fun u hu=>S.hd u (dD _ hu),nd:=(oH.mp S.nd).1} (cg.n rfl)
end
section
variable{X:Gx}{c0:Cm}{u8 u9:Option AV}
theorem pick_run(G:Gk X c0)(z:vo c0){c:Cm}{H:Hp}{cN cO u16:Option AV}(S:Mx X c0 A F v vals vl pl σ c H)(hA:Ao A F v)(hv:A=aN F→vals≠[]){Γ:Prop}
  (eS:∀aI H',En (X.n+2) wB.hd (X.lm u8 u9 (some (.str v)) (some (.loc vl)) (some (.loc pl)) cN cO u16) H (.ret .none) aI H'→(∀s,¬Ag X.P.V X.D X.C F v vals s)→J9 X c0 H'→Γ)
  (fK:∀A' F' v' wF Cz pl' fZ ck c' H',En (X.n+2) wB.hd (X.lm u8 u9 (some (.str v)) (some (.loc vl)) (some (.loc pl)) cN cO u16) H .next (X.lm u8 u9 (some (.str v')) (some (.loc Cz)) (some (.loc pl')) fZ cO u16) H'→
   Mx X c0 A' F' v' wF Cz pl' ck c' H'→Ao A' F' v'→wF≠[]→(∀s,Ag X.P.V X.D X.C F v vals s↔Ag X.P.V X.D X.C F' v' wF s)→me X F vals.length=me X F' wF.length→Γ):Γ:=by
 haveI tv:=nE (S.rep.gM (r:=.d 5 F.length) rfl S.EK);rw[mQ]at tv
 by_cases e:vals=[]
 ·subst e;cases hA with
  |l h=>exact absurd rfl (hv h)
  |r b h=>
   subst h;haveI t1:Te (X.n+2) (.not (.var 11)) (X.lm u8 u9 (some (.str v)) (some (.loc vl)) (some (.loc pl)) cN cO u16) H true H:=gu (fB rfl tv);refine Jw (u8:=u8) (u9:=u9) (eU:=some (.loc vl)) (gq:=some (.loc pl)) (cN:=cN) (cO:=cO) (u16:=u16) S.toBs G z S.hk fun H3 c3 e3 B3=>RJ G z (fG:=some (.str v)) (eU:=some (.loc vl)) (gq:=some (.loc pl)) (cN:=cN) (cO:=cO) (u16:=u16) B3 S.good
    (fun a b d x H' o1 o2 o3=>eS _ H' (cV t1 (aA e3 (aJ (adw o1 (aJ P7 rfl)) rfl))) (fun s q=>o2 s (Jv.mp q)) o3)
    fun F1 f1 ck c' x H' o1 o2 o3 o4 o5=>fK _ F1 f1.v f1.vals f1.vl f1.pl x ck c' H' (cV t1 (aA e3 (aS (Ni o1)))) o2 (.r _ rfl) o3 (fun s=>Jv.trans (o4 s)) (acs.trans o5)
 ·rw[bP e]at tv;exact fK A F v vals vl pl cN σ c H (bF (gu (fB rfl tv)) bD) S hA e (fun s=>A4) rfl
theorem Vz(G:Gk X c0)(z:vo c0){Γ:Prop}:∀{A:List (Str×Int)}{F:List Fm}{v:Str}{vals:List Int}{vl pl:Nat}{σ:Dz}{c:Cm}{H:Hp}{cN cO u16:Option AV},Mx X c0 A F v vals vl pl σ c H→Ao A F v→(A=aN F→vals≠[])→me X F vals.length<m→
  (∀aI H',Xj (X.n+2) (.lit (.bool true)) wB m (X.lm u8 u9 (some (.str v)) (some (.loc vl)) (some (.loc pl)) cN cO u16) H (some (.ret .none)) aI H'→(∀s,¬Ag X.P.V X.D X.C F v vals s)→J9 X c0 H'→Γ)→
  (∀F' (f:Fm) ck c' H' fZ mw mz,Xj (X.n+2) (.lit (.bool true)) wB m (X.lm u8 u9 (some (.str v)) (some (.loc vl)) (some (.loc pl)) cN cO u16) H (some .next) (X.lm u8 u9 (some (.str f.v)) (some (.loc f.vl)) (some (.loc f.pl)) fZ mw mz) H'→
   Ac X c0 F' f ck c' H'→(∀s,Ag X.P.V X.D X.C F v vals s↔Todo X.P.V X.D X.C (f::F') s)→mu X (f::F')≤me X F vals.length→Γ)→Γ:=by
 induction m with
 |zero=>exact fun _ _ _ hm=>absurd hm (Nat.not_lt_zero _)
 |succ m ih=>
  intro A F v vals vl pl σ c H cN cO u16 S hA hv hm eS fK;refine pick_run (u8:=u8) (u9:=u9) (cN:=cN) (cO:=cO) (u16:=u16) G z S hA hv (fun aI H' e1 e2 e3=>eS aI H' (ZR Dc (aJ e1 rfl)) e2 e3) fun A' F' v' wF Cz pl' fZ ck c' H' e1 S' hA' ne e2 e3=>?_;rw[←List.dropLast_concat_getLast ne]at S' e2 e3;generalize wF.dropLast=Df at S' e2 e3;generalize wF.getLast ne=a at S' e2 e3;rw[bU,za]at e3;refine Vy (u8:=u8) (u9:=u9) (cN:=fZ) (cO:=cO) (u16:=u16) G z S' hA' (fun x1 x2 x3 H2 c2 vp o1 o2=>fK F' ⟨v',a,Df,0,Cz,pl'⟩ vp c2 H2 x1 x2 x3 (Qm Dc (aA e1 o1)) o2 (fun s=>(e2 s).trans (Vp (f:=⟨v',a,Df,0,Cz,pl'⟩) S'.hk).symm) (Nat.le_of_eq (Vv.trans e3.symm))) fun x1 x2 x3 H2 c2 vp o1 o2 o3=>?_;have r1:∀s,Ag X.P.V X.D X.C F v vals s↔Ag X.P.V X.D X.C F' v' Df s:=fun s=>(e2 s).trans (Vq (f:=⟨v',a,Df,0,Cz,pl'⟩) S'.hk o3);have lt:me X F' Df.length<me X F vals.length:=e3▸abv;exact ih (cN:=x1) (cO:=x2) (u16:=x3) o2 (.r _ rfl) (fun q=>absurd (aR wX q) (by exact aa bU (Nat.succ_ne_self _))) (Nat.lt_of_lt_of_le lt (Nat.le_of_lt_succ hm)) (fun aI H3 q1 q2 q3=>eS aI H3 (vJ Dc (aA e1 o1) q1) (fun s q=>q2 s ((r1 s).mp q)) q3)
   fun F1 f1 Xv c1 H3 y1 y2 y3 q1 q2 q3 q4=>fK F1 f1 Xv c1 H3 y1 y2 y3 (vJ Dc (aA e1 o1) q1) q2 (fun s=>(r1 s).trans (q3 s)) (Nat.le_trans q4 (Nat.le_of_lt lt))
end
section
variable{n l i:Nat}{lm:LM}{H H1 H2 H3:Hp}{elt it cd:E}{t:Nat}{v w x:AV}{xs ys a r:List AV}{F:AV→Hp→List AV→Hp→Prop}{cD:Hp→Prop}
theorem cR(h:F x H a H1)(k:cD H1)(q:Mi F cD xs H1 r H2):Mi F cD (x::xs) H (a++r) H2:=.cons h k q
abbrev nU(n:Nat)(elt:E)(lm:LM)(t:Nat):AV→Hp→List AV→Hp→Prop:=Fb TT fun x H v H'=>Ev n elt (lm.set t (some x)) H v H'
abbrev ku(n:Nat)(cd elt:E)(lm:LM)(t:Nat):AV→Hp→List AV→Hp→Prop:=Fb (fun x H b H'=>Te n cd (lm.set t (some x)) H b H') fun x H v H'=>Ev n elt (lm.set t (some x)) H v H'
theorem cF(h:Ev n elt (lm.set t (some x)) H v H1):nU n elt lm t x H [v] H1:=.yes ⟨rfl,rfl⟩ h
theorem cIT(k:Te n cd (lm.set t (some x)) H true H1)(h:Ev n elt (lm.set t (some x)) H1 v H2):ku n cd elt lm t x H [v] H2:=.yes k h
theorem MJ(k:Te n cd (lm.set t (some x)) H false H1):ku n cd elt lm t x H [] H1:=.no k
theorem Jy(h:Ev n it lm H (.loc l) H1)(k:Wk H1 l xs)(q:Mi (nU n elt lm t) (gW H1 l) xs H1 ys H2)(s:ys.length<bQ):Ew n (.comp elt t it) lm H ys H2:=Zz h k q s
theorem DS(h:Ev n it lm H (.loc l) H1)(k:Wk H1 l xs)(q:Mi (ku n cd elt lm t) (gW H1 l) xs H1 ys H2)(s:ys.length<bQ):Ew n (.fm elt t it cd) lm H ys H2:=UT h k q s
theorem HB(h:Ev n it lm H (.loc l) H1)(k:Wk H1 l xs)(q:Mi (nU n elt lm t) (gW H1 l) xs H1 ys H2)(p:Pu (.list ys) H2 w H3):Ev n (.comp elt t it) lm H w H3:=Hq (Jy h k q p.s) p
theorem pT(h:Ev n it lm H (.loc l) H1)(k:Wk H1 l xs)(q:Mi (ku n cd elt lm t) (gW H1 l) xs H1 ys H2)(p:Pu (.list ys) H2 w H3):Ev n (.fm elt t it cd) lm H w H3:=Hq (DS h k q p.s) p
theorem Jz(h:Ev n it lm H (.loc l) H1)(k:Wk H1 l xs)(q:Mi (nU n elt lm t) (gW H1 l) xs H1 ys H2)(p:Pu (.list ys) H2 w H3):En n (.asg i (.comp elt t it)) lm H .next (lm.set i (some w)) H3:=Hs (Jy h k q p.s) p
theorem rZ(h:Ev n it lm H (.loc l) H1)(k:Wk H1 l xs)(q:Mi (ku n cd elt lm t) (gW H1 l) xs H1 ys H2)(p:Pu (.list ys) H2 w H3):En n (.asg i (.fm elt t it cd)) lm H .next (lm.set i (some w)) H3:=Hs (DS h k q p.s) p
end
theorem VA(h:Pt l o H H')(n:k≠l):H'[k]? =H[k]? :=by
 exact aa h.h (gZ (dg n))
structure aee(H:Hp)(t:(Int×Int×Str)×Nat):Prop where
 h:H[t.2]? =some (.tuple [.int t.1.1,.int t.1.2.1,.str t.1.2.2])
noncomputable abbrev Th:=(Int×Int×Str)×Nat
section
variable{P:Pb}{D:Str→List Int}{C:List (List Str)}{A A':List (Str×Int)}{F:List Fm}{f:Fm}{σ:Dz}{c c0:Cm}{H:Hp}{n lA lQ pl vl N ep:Nat}{self cv:AV}{v:Str}{a:Int}{vals:List Int}{u8 u9 fG eU gq cN cO u16:Option AV}{cD:Hp→Prop}
noncomputable def tri(P:Pb)(σ:Dz)(x:Str):Int×Int×Str:=(-((P.vc x).length:Int),((σ.bS x).length:Int),x)
noncomputable abbrev acy:E:=.tup (.cons (.neg (.call (.lit (.glob .len)) (.cons (.sub (.var 3) (.var 7)) .nil))) (.cons (.call (.lit (.glob .len)) (.cons (.sub (.var 1) (.var 7)) .nil)) (.cons (.var 7) .nil)))
theorem VB(l1:lm[1]? =some (some (.loc P.lD)))(l3:lm[3]? =some (some (.loc P.lC)))(l7:7<lm.length)(pc:IP P c)(bZ:∀{H},Rep (mix P.L P.V σ c) H→cD H){Γ:Prop}:∀{H:Hp},(∀x∈W,x∈P.V)→Rep (mix P.L P.V σ c) H→
  (∀H' (ts:List Th),Mi (nU n acy lm 7) cD (aW W) H (ts.map fun t=>AV.loc t.2) H'→Rep (mix P.L P.V σ c) H'→Gr H H'→(∀t∈ts,aee H' t)→ts.map (·.1)=W.map (tri P σ)→Γ)→Γ:=by
 induction W with
 |nil=>exact fun{H} _ R κ=>κ H [] .nil R (fun q=>q) (fun t h=>(nx h)) rfl
 |cons x W ih=>
  intro H hV R κ;haveI hx:=hV x cI;haveI g7:(lm.set 7 (some (.str x)))[7]? =some (some (.str x)):=mF l7;haveI g1:(lm.set 7 (some (.str x)))[1]? =some (some (.loc P.lD)):=(gZ (by decide)).trans l1;haveI g3:(lm.set 7 (some (.str x)))[3]? =some (some (.loc P.lC)):=(gZ (by decide)).trans l3;refine pc.dom.elim fun JR hD=>pc.vcd.elim fun epC hC=>R.tmp (.tuple [.int (-(((P.vc x).map fun k=>AV.loc k.t).length:Int)),.int ((aO (σ.bS x)).length:Int),.str x]) (by decide:3<bQ) fun H1 l p1 R1 gr1 hl _=>?_;haveI e1:nU n acy lm 7 (.str x) H [.loc l] H1:=cF (oR (ai (I2 (bI (ai (gR (aj g3) (aj g7) (oW (R.gM rfl hC) (Jx hx))) aq) (rC (pS (R.gM rfl (pc.vcl x hx)))))) (ai (bI (ai (gR (aj g1) (aj g7) (oW (R.gM rfl hD) (mL hx))) aq) (rC (Hx (mV R hx)))) (ai (aj g7) aq))) p1);rw[bR,fR]at hl;exact ih (fun y hy=>hV y (cZ _ hy)) R1 fun H2 ts e2 R2 gr2 t2 m2=>κ H2 ((tri P σ x,l)::ts) (cR e1 (bZ R1) e2) R2 (fun q=>gr2 (gr1 q)) (fun t ht=>(bw.mp ht).elim (fun q=>by exact aa q ⟨gr2 hl⟩) (t2 t)) (aR (wY _) m2)
theorem VC(K:Kn P D C)(pc:IP P c)(R:Rep (mix P.L P.V σ c) H){Γ:Prop}(κ:∀(ll:Nat) (H':Hp) (its:List (Str×Nat)),fS n C4 (JS P self cv lA lQ u8 u9 fG eU gq cN cO u16) H .next (JS P self cv lA lQ (some (.loc ll)) u9 fG eU gq cN cO u16) H'→Rep (mix P.L P.V σ (c.up (.a 5) (ll,.list (its.map fun p=>.loc p.2)))) H'→(∀p∈its,∃a b,H'[p.2]? =some (.tuple [.int a,.int b,.str p.1]))→(its.map (·.1)).Perm P.V→Γ):Γ:=by
 refine pc.dom.elim fun JR hD=>?_;haveI IK:=R.gM rfl hD;refine VB (n:=n) (lm:=JS P self cv lA lQ u8 u9 fG eU gq cN cO u16) (cD:=gW H P.lD) rfl rfl (by show 7<17;decide) pc (fun R'=>bq IK (R'.gM rfl hD) rfl) (W:=P.V) (fun x hx=>hx) R fun H1 ts e1 R1 g1 t1 m1=>?_;haveI it:Wk H P.lD (aW P.V):=by
  haveI:=vI IK
  rwa [show(bW P.L P.V).map (·.1)=aW P.V by delta bW aW;refine aa iM ?_;rfl]at this
 have lt:ts.length<60:=by rw[←bR (f:=(·.1)),m1,bR];exact K.nV
 haveI sm:∀{us:List Th},us.length<60→(us.map fun(t:Th)=>AV.loc t.2).length<bQ:=fun h=>by rw[bR];exact Nat.lt_trans h (by decide)
 haveI ls:(cJ (fun(a b:Th)=>ie a.1 b.1) ts).length<60:=by exact aa ((cj _).length_eq) lt
 refine R1.fY (.a 5) rfl (.list (ts.map fun(t:Th)=>AV.loc t.2)) (sm lt) fun H2 ll p2 R2 g2=>?_;haveI nd:(ts.map (·.1)).Nodup:=by
  exact aa m1 (zh.mpr (K.Xu.imp fun h q=>h (aR (·.2.2) q)))
 have t2:∀t∈ts,H2[t.2]? =some (.tuple [.int t.1.1,.int t.1.2.1,.str t.1.2.2]):=fun t ht=>g2 (t1 t ht).h;refine R2.jM up_eq rfl (.list ((cJ (fun(a b:Th)=>ie a.1 b.1) ts).map fun(t:Th)=>AV.loc t.2)) (sm ls) fun H3 p3 R3=>?_;have hll:=R2.gM (r:=.a 5) rfl up_eq;haveI Xw:Mc n .seq ll .sort [] H2 .none H3:=p3.e fun s=>ZH hll t2 nd (Nat.lt_trans lt (by decide)) s;refine κ ll H3 ((cJ (fun(a b:Th)=>ie a.1 b.1) ts).map fun(t:Th)=>(t.1.2.2,t.2)) (aA (Jz (aj rfl) it e1 p2) (aS (dM (d9 (aj rfl) (gG hll rfl) aq Xw)))) (by exact aa iM (Ny R3)) (fun p hp=>(bX.mp hp).elim fun t h=>?_) ?_
 ·have q:=t2 t ((cj _).mem_iff.mp h.1);exact ez h.2 ⟨t.1.1,t.1.2.1,(VA p3 (fun z=>by rw[z,hll]at q;cases q)).trans q⟩
 ·refine aa iM (((cj _).map _).trans ?_);haveI:=aR (jN fun(p:Int×Int×Str)=>p.2.2) m1;rw[iM,iM]at this;exact(this.trans (List.map_id' P.V))▸ .refl _
end
theorem JA:(dJ (.str x) (dh (aN F))).isSome=decide (x∈keys F):=by
 refine aa pC ?_;haveI:=mP (k:=x) (F:=F);cases q:dK x (aN F)with
 |none=>rw[q]at this;refine aa (bP (fun h=>by cases this.mpr h)) ?_;rfl
 |some a=>rw[q]at this;refine aa (bN (this.mp rfl)) ?_;rfl
section
variable{P:Pb}{D:Str→List Int}{C:List (List Str)}{F:List Fm}{σ:Dz}{c c0:Cm}{H:Hp}{n lA lQ ep:Nat}{self cv:AV}{v:Str}{u8 u9 fG eU gq cN cO u16:Option AV}{cD:Hp→Prop}
noncomputable abbrev pdC:E:=.and (.cmp .nin (.var 12) (.var 5)) (.cmp .ne (.var 12) (.var 10))
theorem ZX(pc:IP P c)(R:Rep (mix P.L P.V σ c) H)(hA:H[lA]? =some (.dict (dh (aN F)) ep))(l1:lm[1]? =some (some (.loc P.lD)))(l5:lm[5]? =some (some (.loc lA)))(lv:lm[10]? =some (some (.str v)))(Ti:12<lm.length)(bZ:cD H):∀{W:List Str},(∀x∈W,x∈P.V)→
  Mi (ku n pdC (.sub (.var 1) (.var 12)) lm 12) cD (aW W) H (iO P.L (W.filter fun x=>decide (x∉keys (fv v::F)))) H:=by
 intro rv
 induction rv with
 |nil=>
  intro _;exact .nil
 |cons x W ih=>
  intro hV;haveI hx:=hV x cI;refine eY (pc.dom) fun JR hD=>?_;haveI ih:=ih fun y hy=>hV y (cZ _ hy);haveI Xx:(lm.set 12 (some (.str x)))[12]? =some (some (.str x)):=mF Ti;haveI g1:(lm.set 12 (some (.str x)))[1]? =some (some (.loc P.lD)):=(gZ (by decide)).trans l1;haveI g5:(lm.set 12 (some (.str x)))[5]? =some (some (.loc lA)):=(gZ (by decide)).trans l5;haveI EW:(lm.set 12 (some (.str x)))[10]? =some (some (.str v)):=(gZ (by decide)).trans lv;haveI m1:=in_dict (u:=.str x) hA rfl;rw[JA]at m1;haveI ne:Rc 3 H (.str x) (.str v) (decide (x=v)):=GO
  by_cases k:x∈keys F
  ·refine aa (we (by exact fun q=>absurd (cZ _ k) (cP q))) ?_;rw[bN k]at m1;exact cR (MJ (nv (bA (aj Xx) (aj g5) (nq m1)))) bZ ih
  ·rw[bP k]at m1
   by_cases z:x=v
   ·refine aa (we (by exact fun q=>absurd (show x∈keys (fv v::F) by rw[z];exact cI) (cP q))) ?_;rw[bN z]at ne;exact cR (MJ (ly (bA (aj Xx) (aj g5) (nq m1)) (bA (aj Xx) (aj EW) (iN ne)))) bZ ih
   ·rw[CZ (by
     exact aa oZ (fun q=>(bw.mp q).elim z k))]
    rw[bP z]at ne;exact cR (cIT (ly (bA (aj Xx) (aj g5) (nq m1)) (bA (aj Xx) (aj EW) (iN ne))) (gR (aj g1) (aj Xx) (oW (R.gM rfl hD) (mL hx)))) bZ ih
end
structure Si(X:Gx)(c0:Cm)(F:List Fm)(σ:Dz)(c:Cm)(H:Hp):Prop extends Bs X c0 (aN F) F σ c H where
 good:X.good F σ
 ne:NE X.P.V F σ
theorem ZY{X:Gx}(pc:IP X.P c)(R:X.rep σ c H):Wk H X.P.lD (aW X.P.V):=pc.dom.elim fun ep hD=>by
 haveI:=vI (R.gM (r:=.a 1) rfl hD)
 rwa [show(bW X.P.L X.P.V).map (·.1)=aW X.P.V by simp[bW,aW]]at this
theorem VD{X:Gx}(pc:IP X.P c)(R:X.rep σ c H):gW H X.P.lD H:=pc.dom.elim fun ep hD=>bq (R.gM (r:=.a 1) rfl hD) (R.gM (r:=.a 1) rfl hD) rfl
section
variable{X:Gx}{F:List Fm}{σ:Dz}{c c0:Cm}{H:Hp}{u8 fG eU gq cN cO u16:Option AV}{cD:Hp→Prop}
theorem RK(G:Gk X c0)(z:vo c0)(S:Si X c0 F σ c H)(hx:x∈X.P.V)(k:x∉keys F)(it:Ev (X.n+2) (.sub (.var 9) (.neg (.lit (.int 1)))) (X.lm u8 (some (.loc l)) fG eU gq cN cO u16) H (.str x) H)(m1:Te (X.n+2) (.cmp .nin (.sub (.var 9) (.neg (.lit (.int 1)))) (.var 5)) (X.lm u8 (some (.loc l)) fG eU gq cN cO u16) H true H){Γ:Prop}
  (κ:∀vl pl c' H',fS (X.n+2) jo (X.lm u8 (some (.loc l)) fG eU gq cN cO u16) H .brk (X.lm u8 (some (.loc l)) (some (.str x)) (some (.loc vl)) (some (.loc pl)) cN cO u16) H'→Mx X c0 (aN F) F x (σ.bS x) vl pl σ c' H'→Γ):Γ:=by
 haveI sz:=Good.sz' G S.good (Nat.lt_succ_of_lt (G.lt' S.ok)) x hx;haveI pc':=G.pc.mono S.le;refine S.asg.elim fun ep hA=>pc'.dom.elim fun JR hD=>S.rep.fY (.d 5 F.length) rfl (.list (aO (σ.bS x))) (dH (mq (Nat.lt_of_le_of_lt (Nat.le_add_right _ _) (Nat.lt_trans sz.1 (by decide))))) fun H1 vl p1 R1 g1=>?_;refine R1.jF (.list (iO X.P.L (X.un (fv x::F)))) (by show(jN _ _).length<bQ;rw[bR];exact Nat.lt_of_le_of_lt (C2 _ _) (Nat.lt_trans G.K.nV (by decide))) fun H2 pl p2 R2 g2 zz=>?_;haveI l1:=S.le.up (p:=(vl,AO.list (aO (σ.bS x)))) (z.d5 F.length);haveI pc1:=G.pc.mono l1;haveI l2:=jG (p:=(pl,AO.list (iO X.P.L (X.un (fv x::F))))) zz;haveI hA1:=(aX (r:=.d 5 F.length) (p:=(vl,AO.list (aO (σ.bS x)))) (r':=.a 3) (by simp)).trans hA;haveI pd:=ZX (n:=X.n+2) (lm:=X.lm u8 (some (.loc l)) (some (.str x)) (some (.loc vl)) gq cN cO u16) (v:=x) (F:=F) (cD:=gW H1 X.P.lD) pc1 R1 (R1.gM (r:=.a 3) rfl hA1) rfl rfl rfl (by show 12<17;decide) (VD pc1 R1) (W:=X.P.V) (fun y hy=>hy);haveI g:=(S.good x hx).all.1;exact κ vl pl _ H2 (aJ (cV m1 (aA (cC it) (aA (cC (Nt (gR (aj rfl) (aj rfl) (oW (S.rep.gM (r:=.a 1) rfl hD) (mL hx))) (Qh (mV S.rep hx)) p1)) (aA (cV (fB rfl eT) (aS (rZ (aj rfl) (ZY pc1 R1) pd p2))) (aJ Dd rfl))))) rfl)
  {rep:=R2,le:=l1.trans l2,n0:=aL (aL S.n0 rfl) rfl,asg:=⟨ep,l2 _ _ hA1⟩,EV:=l2 _ _ (aL S.EV rfl),fr:=(S.fr.up rfl fun j hj q=>by cases q;exact Nat.lt_irrefl _ hj).mono l2,ok:=S.ok,good:=S.good,ne:=fun y hy=>S.ne y (jQ.mpr ⟨(jQ.mp hy).1,fun q=>(jQ.mp hy).2 (cZ _ q)⟩),hp:=up_eq,EK:=l2 _ _ up_eq,hv:=hx,hk:=k,hd:=fun u hu=>g.mem_iff.mp (dD _ hu),nd:=(oH.mp (g.nodup_iff.mpr (G.K.szD x hx).2)).1}
structure Trp(X:Gx)(H:Hp)(p:Str×Nat):Prop where
 v:p.1∈X.P.V
 h:∃a b,H[p.2]? =some (.tuple [.int a,.int b,.str p.1])
theorem VE(G:Gk X c0)(z:vo c0)(S:Si X c0 F σ c H)(bZ:cD H){Γ:Prop}{its:List (Str×Nat)}:∀{u9:Option AV},(∀p∈its,Trp X H p)→
  (∀sN,Tn (fS (X.n+2) jo) (.one 9) cD (its.map fun p=>.loc p.2) (X.lm u8 u9 fG eU gq cN cO u16) H none (X.lm u8 sN fG eU gq cN cO u16) H→(∀p∈its,p.1∈keys F)→Γ)→
  (∀sN v vl pl c' H',Tn (fS (X.n+2) jo) (.one 9) cD (its.map fun p=>.loc p.2) (X.lm u8 u9 fG eU gq cN cO u16) H (some .next) (X.lm u8 sN (some (.str v)) (some (.loc vl)) (some (.loc pl)) cN cO u16) H'→Mx X c0 (aN F) F v (σ.bS v) vl pl σ c' H'→σ.bS v≠[]→Γ)→Γ:=by
 induction its with
 |nil=>exact fun{u9} _ eS _=>eS u9 .nil (fun p hp=>(nx hp))
 |cons p its ih=>
  intro u9 h eS fK;obtain⟨x,l⟩:=p;have t:=h _ cI;refine t.h.elim fun a t2=>t2.elim fun b hl=>S.asg.elim fun ep hA=>?_;haveI m1:=in_dict (u:=.str x) (S.rep.gM (r:=.a 3) rfl hA) rfl;rw[JA]at m1;haveI it:Ev (X.n+2) (.sub (.var 9) (.neg (.lit (.int 1)))) (X.lm u8 (some (.loc l)) fG eU gq cN cO u16) H (.str x) H:=gR (aj rfl) (I2 aT) (GV hl rfl)
  by_cases k:x∈keys F
  ·rw[bN k]at m1;have nx:fS (X.n+2) jo (X.lm u8 (some (.loc l)) fG eU gq cN cO u16) H .next (X.lm u8 (some (.loc l)) fG eU gq cN cO u16) H:=aS (bF (bA it (aj rfl) (nq m1)) bD);exact ih (u9:=some (.loc l)) (fun p hp=>h p (cZ _ hp)) (fun sN o1 o2=>eS sN (dm fM nx bZ o1) (fun p hp=>(bw.mp hp).elim (fun q=>by exact aa q k) (o2 p))) fun sN v vl pl c' H' o1 o2 o3=>fK sN v vl pl c' H' (dm fM nx bZ o1) o2 o3
  ·rw[bP k]at m1;exact RK G z S t.v k it (bA it (aj rfl) (nq m1)) fun vl pl c' H' o1 o2=>fK _ x vl pl c' H' (Hy fM o1) o2 (S.ne x (jQ.mpr ⟨t.v,k⟩))
end
section
variable{X:Gx}{A:List (Str×Int)}{F:List Fm}{σ:Dz}{c c0:Cm}{H:Hp}{vl pl:Nat}{v:Str}{vals:List Int}{u8 u9 fG eU gq cN cO u16:Option AV}
theorem Bs.TH(B:Bs X c0 A F σ c H)(o:AO)(s:small o){Γ:Prop}(κ:∀H' l,Pu o H (.loc l) H'→Bs X c0 A F σ (c.up (.z l) (l,o)) H'→Le c (c.up (.z l) (l,o))→c (.z l)=none→Γ):Γ:=
 B.rep.jF o s fun H' l p R g z=>B.asg.elim fun ep h=>
  κ H' l p ⟨R,B.le.trans (jG z),aL B.n0 rfl,⟨ep,jG z _ _ h⟩,jG z _ _ B.EV,B.fr.mono (jG z),B.ok⟩ (jG z) z
theorem JB(G:Gk X c0)(z:vo c0)(S:Mx X c0 A F v vals vl pl σ c H)(hA:Ao A F v)(hv:A=aN F→vals≠[]){Γ:Prop}
  (eS:∀H',GD (X.n+2) (X.lm u8 u9 (some (.str v)) (some (.loc vl)) (some (.loc pl)) cN cO u16) H (.fin H')→(∀s,¬Ag X.P.V X.D X.C F v vals s)→J9 X c0 H'→Γ)
  (fK:∀F' ck c' H' Fd Ff Fg fZ mw mz,GD (X.n+2) (X.lm u8 u9 (some (.str v)) (some (.loc vl)) (some (.loc pl)) cN cO u16) H (.cont (X.lm u8 u9 Fd Ff Fg fZ mw mz) H')→Si X c0 F' ck c' H'→(∀s,Ag X.P.V X.D X.C F v vals s↔Todo X.P.V X.D X.C F' s)→mu X F'≤me X F vals.length→Γ):Γ:=by
 refine Vz (u8:=u8) (u9:=u9) (cN:=cN) (cO:=cO) (u16:=u16) G z S hA hv (Nat.lt_succ_self _) (fun aI H' e1 e2 e3=>eS H' (.fin (aJ (Ni e1) rfl)) e2 e3) fun F' f ck c' H' fZ mw mz e1 S' e2 e3=>?_;refine S'.toBs.TH (.tuple [.str f.v,.loc f.vl,.loc f.pl]) (by decide:3<bQ) fun H1 t p1 B1 le z1=>?_;refine B1.acv (F':=⟨f.v,f.a,f.vals,t,f.vl,f.pl⟩::F') z ⟨B1.fr,up_eq,le _ _ S'.hp,le _ _ S'.EK⟩ S'.ok' (G.ltL S'.ok (Nat.le_refl _)) fun H2 c2 p2 B2 k2=>?_;haveI hq:=S'.rep.gM rfl S'.EV;rw[BO]at p2;exact fK (⟨f.v,f.a,f.vals,t,f.vl,f.pl⟩::F') ck c2 H2 _ _ _ _ _ _ (.cont (aA (Ni e1) (aS (dM (d9 (aj rfl) (gG hq rfl) (ai (oR (ai (aj rfl) (ai (aj rfl) (ai (aj rfl) aq))) p1) aq) (ir (yW (Rep.gM B1.rep (r:=.a 4) rfl B1.EV)) p2)))))) {B2 with good:=fun y hy=>(S'.good y hy).top rfl rfl,ne:=S'.ne} e2 e3
theorem ya(G:Gk X c0)(z:vo c0)(S:Si X c0 F σ c H){Γ:Prop}
  (eS:∀H',MI (X.n+2) (X.lm u8 u9 fG eU gq cN cO u16) H (.fin H')→(∀s,¬Todo X.P.V X.D X.C F s)→J9 X c0 H'→Γ)
  (fK:∀F' ck c' H' uv sN Fd Ff Fg fZ mw mz,MI (X.n+2) (X.lm u8 u9 fG eU gq cN cO u16) H (.cont (X.lm uv sN Fd Ff Fg fZ mw mz) H')→Si X c0 F' ck c' H'→(∀s,Todo X.P.V X.D X.C F s↔Todo X.P.V X.D X.C F' s)→mu X F'<mu X F→Γ)
  (abw:∀d c' H' uv sN,SR (X.n+2) (X.lm u8 u9 fG eU gq cN cO u16) H (.loc d) (X.lm uv sN fG eU gq cN cO u16) H'→(∀x∈X.P.V,x∈keys F)→c' (.z d)=some (d,.dict (dh (aN F)) 0)→c0 (.z d)=none→Si X c0 F σ c' H'→Γ):Γ:=by
 haveI pc':=G.pc.mono S.le;refine S.asg.elim fun ep ha=>VC (n:=X.n+2) (self:=X.self) (cv:=X.cv) (lA:=X.lA) (lQ:=X.lQ) (u8:=u8) (u9:=u9) (fG:=fG) (eU:=eU) (gq:=gq) (cN:=cN) (cO:=cO) (u16:=u16) G.K pc' S.rep fun ll H1 its e1 R1 t1 m1=>?_;have S1:Si X c0 F σ (c.up (.a 5) (ll,.list (its.map fun p=>.loc p.2))) H1:={rep:=R1,le:=S.le.up z.a5,n0:=aL S.n0 rfl,asg:=⟨ep,aL ha rfl⟩,EV:=aL S.EV rfl,fr:=S.fr.up rfl (fun k _ q=>(nomatch q)),ok:=S.ok,good:=S.good,ne:=S.ne};have hl:=R1.gM (r:=.a 5) rfl up_eq;refine VE (u8:=some (.loc ll)) (u9:=u9) (fG:=fG) (eU:=eU) (gq:=gq) (cN:=cN) (cO:=cO) (u16:=u16) (cD:=gW H1 ll) G z S1 (bq hl hl rfl) (its:=its) (fun p hp=>⟨m1.mem_iff.mp (dF hp),t1 p hp⟩) (fun sN q1 q2=>?_) fun sN v vl pl c2 H2 q1 S2 ne=>?_
 ·haveI hA:=R1.gM (r:=.a 3) rfl (aL ha rfl);refine S1.toBs.TH (.dict (dh (aN F)) 0) (by show(jN _ _).length<bQ;rw[bR,vL];exact G.ltL S.ok (Nat.le_succ _)) fun H2 d p2 B2 le z2=>?_;haveI cp:Ev (X.n+2) IZ (X.lm (some (.loc ll)) sN fG eU gq cN cO u16) H1 (.loc d) H2:=d9 (aj rfl) (xd hA rfl) aq (Qi hA p2);exact abw d _ H2 (some (.loc ll)) sN ⟨⟨e1,aj rfl,bL hl,q1⟩,cp⟩ (fun x hx=>(bX.mp (m1.mem_iff.mpr hx)).elim fun p hp=>hp.2▸q2 p hp.1) up_eq (S1.le.none z2) {B2 with good:=S.good,ne:=S.ne}
 ·haveI lt:F.length+1≤X.P.V.length:=by
   haveI h:=(dO.mpr ⟨S2.hk,S.ok.nodup.1⟩).length_le_of_subset (l₂:=X.P.V) fun x hx=>(bw.mp hx).elim (fun q=>q▸S2.hv) (S.ok.nodup.2 x);unfold keys at h;rw[wW,bR]at h;exact h
  haveI two:(σ.bS v).length≤2:=by
   haveI h:=(S.good v S2.hv).all.1.length_eq;rw[bU]at h;exact Nat.le_trans (Nat.le_add_right _ _) (h▸(G.K.szD v S2.hv).1)
  have lm:me X F (σ.bS v).length<mu X F:=by
   delta me mu;rw[show X.P.V.length -F.length=(X.P.V.length -(F.length+1))+1 from(Nat.succ_pred_eq_of_pos (Nat.sub_pos_of_lt lt)).symm,Nat.pow_succ,Nat.mul_comm _ 3];exact Nat.add_lt_add_left (Nat.lt_of_le_of_lt (Nat.mul_le_mul_right _ two) (Nat.mul_lt_mul_of_pos_right (by decide) (Nat.pow_pos (by decide)))) _
  have sel:∀s,Todo X.P.V X.D X.C F s↔Ag X.P.V X.D X.C F v (σ.bS v) s:=fun s=>Vr S.good S.ok S2.hv;exact JB (u8:=some (.loc ll)) (u9:=sN) (cN:=cN) (cO:=cO) (u16:=u16) G z S2 (.l rfl) (fun _=>ne) (fun H' o1 o2 o3=>eS H' ⟨⟨e1,aj rfl,bL hl,q1⟩,o1⟩ (fun s q=>o2 s ((sel s).mp q)) o3)
   fun F' ck c' H' a b d x y w o1 o2 o3 o4=>fK F' ck c' H' _ _ a b d x y w ⟨⟨e1,aj rfl,bL hl,q1⟩,o1⟩ o2 (fun s=>(sel s).trans (o3 s)) (Nat.lt_of_le_of_lt o4 lm)
theorem Ez(G:Gk X c0)(z:vo c0)(S:Si X c0 F σ c H){Γ:Prop}
  (eS:∀H',GA (X.n+2) (X.lm u8 u9 fG eU gq cN cO u16) H (.fin H')→(∀s,¬qw X.P.V X.D X.C F s)→J9 X c0 H'→Γ)
  (fK:∀F' ck c' H' Fd Ff Fg fZ mw mz,GA (X.n+2) (X.lm u8 u9 fG eU gq cN cO u16) H (.cont (X.lm u8 u9 Fd Ff Fg fZ mw mz) H')→Si X c0 F' ck c' H'→(∀s,qw X.P.V X.D X.C F s↔Todo X.P.V X.D X.C F' s)→mu X F'≤wt X.P.V.length F→Γ):Γ:=by
 cases F with
 |nil=>
  haveI r:fS (X.n+2) qj (X.lm u8 u9 fG eU gq cN cO u16) H (.ret .none) _ H:=aJ (cV (gu (fB rfl (nE (S.rep.gM rfl S.EV)))) (aJ P7 rfl)) rfl;exact eS H (.fin r) (fun s q=>q) ⟨σ,c,S.rep,S.le,S.good⟩
 |cons f F=>
  have tt:=WW (S.rep.gM rfl S.EV);refine S.toBs.acw (u8:=u8) (u9:=u9) (fG:=fG) (eU:=eU) (gq:=gq) (cN:=cN) (cO:=cO) (u16:=u16) G z fun H1 c1 asg B1 h2 h3=>Nz (u8:=u8) (u9:=u9) (fG:=some (.str f.v)) (eU:=some (.loc f.vl)) (cN:=cN) (cO:=cO) (u16:=u16) G.K (G.lt' B1.ok) B1.rep h2 S.good fun fZ H2 vp e2 R2 g2 ne2=>?_;have r:fS (X.n+2) qj (X.lm u8 u9 fG eU gq cN cO u16) H .next (X.lm u8 u9 (some (.str f.v)) (some (.loc f.vl)) (some (.loc f.pl)) fZ cO u16) H2:=
   aA (bF (gu (fB rfl tt)) bD) (aA asg (aS e2))
  exact JB (u8:=u8) (u9:=u9) (cN:=fZ) (cO:=cO) (u16:=u16) G z (Bs.rdy S.ok B1 h2 h3 R2 g2 ne2) (.r _ rfl) (fun q=>absurd (aR wX q) (by exact aa bU (Nat.succ_ne_self _))) (fun H' o1 o2 o3=>eS H' (.d r o1) o2 o3)
   fun F' ck c' H' a b d x y w o1 o2 o3 o4=>fK F' ck c' H' a b d x y w (.d r o1) o2 o3 (vK▸o4)
end
abbrev Zs:=List (Nat×List (Str×Int))
def ZC(Z:Zs)(c:Cm):Prop:=∀p∈Z,c (.z p.1)=some (p.1,.dict (dh p.2) 0)
noncomputable def Xy(c0 c:Cm):Cm
 |.z l=>c (.z l)
 |r=>c0 r
section
variable{X:Gx}{F:List Fm}{c c0:Cm}{H:Hp}{σ:Dz}
theorem rO(R:Rep (mix L V σ c) H)(h:Le c0 c):Rep (mix L V σ (Xy c0 c)) H:=R.leM fun r p _ e=>by
 cases r<;>first|exact e|exact h _ _ e
theorem vo.upz(z:vo c0):vo (c0.up (.z l) p):=⟨aL z.a0 rfl,aL z.a3 rfl,aL z.a4 rfl,aL z.a5 rfl,fun k=>aL (z.d5 k) rfl⟩
theorem NI:wt X.P.V.length F<mu X F:=Nat.lt_add_of_pos_right (Nat.pow_pos (by decide))
theorem ZZ:mu X []=3^X.P.V.length:=Nat.zero_add _
theorem VF(l:Le c0 c')(h:c' (.z d)=some (d,o)):Le (c0.up (.z d) (d,o)) c':=fun r p e=>by
 by_cases q:r=.z d
 ·rw[q,up_eq]at e;(refine aa q (ez e ?_));exact h
 ·rw[aX q]at e;exact l _ _ e
theorem Si.aef(S:Si X c0 F σ c' H)(h:c' (.z d)=some (d,o)):Si X (c0.up (.z d) (d,o)) F σ c' H:={S with le:=VF S.le h}
theorem LV{Γ:Prop}:∀{F:List Fm}{σ:Dz}{c c0:Cm}{H:Hp}{u8 u9 fG eU gq cN cO u16:Option AV},Gk X c0→vo c0→Si X c0 F σ c H→mu X F<k→
  (∀(Z:Zs) H' ck c',qZ (X.n+2) (X.lm u8 u9 fG eU gq cN cO u16) H (Z.map fun p=>.loc p.1) H'→X.rep ck c' H'→Le c0 c'→X.good [] ck→ZC Z c'→Found (V:=X.P.V) (Z.map (·.2)) (Todo X.P.V X.D X.C F)→Z.length≤mu X F→Γ)→Γ:=by
 induction k with
 |zero=>exact fun _ _ _ h=>absurd h (Nat.not_lt_zero _)
 |succ k ih=>
  intro F σ c c0 H u8 u9 fG eU gq cN cO u16 G z S hk κ;refine ya (u8:=u8) (u9:=u9) (fG:=fG) (eU:=eU) (gq:=gq) (cN:=cN) (cO:=cO) (u16:=u16) G z S (fun H' o1 o2 o3=>?_) (fun F' ck c' H' a1 a2 a3 a4 a5 a6 a7 a8 o1 o2 o3 o4=>?_) fun d c' H' a1 a2 o1 o2 o3 o4 o5=>?_
  ·cases o3 with
   |mk ck c' r l g=>exact κ [] H' ck c' (.fin o1) r l g (fun p hp=>(nx hp)) (Found.nil o2) (Nat.zero_le _)
  ·exact ih (u8:=a1) (u9:=a2) (fG:=a3) (eU:=a4) (gq:=a5) (cN:=a6) (cO:=a7) (u16:=a8) G z o2 (Nat.lt_of_lt_of_le o4 (Nat.le_of_lt_succ hk)) fun Z H2 vp c2 q1 q2 q3 q4 q5 q6 q7=>κ Z H2 vp c2 (.cont o1 q1) q2 q3 q4 q5 (q6.iff o3) (Nat.le_trans q7 (Nat.le_of_lt o4))
  ·haveI l0:=jG (p:=(d,AO.dict (dh (aN F)) 0)) o4;have G0:Gk X (c0.up (.z d) (d,.dict (dh (aN F)) 0)):=⟨G.K,G.pc.mono l0⟩;have fnd:=fun{R} (h:Found (V:=X.P.V) R (qw X.P.V X.D X.C F))=>h.cons S.ok G.K.Xu o2 fun W hW=>(G.K.hC W hW).2;refine Ez (u8:=a1) (u9:=a2) (fG:=fG) (eU:=eU) (gq:=gq) (cN:=cN) (cO:=cO) (u16:=u16) G0 z.upz (o5.aef o3) (fun H2 q1 q2 q3=>?_) fun F' ck c2 H2 b1 b2 b3 b4 b5 b6 q1 q2 q3 q4=>?_
   ·cases q3 with
    |mk ck c2 r l g=>exact κ [(d,aN F)] H2 ck c2 (.adM o1 q1) r (l0.trans l) g (fun p hp=>by exact aa (bO.mp hp) (l _ _ up_eq)) (fnd (Found.nil q2)) (Nat.lt_of_le_of_lt (Nat.zero_le _) NI)
   ·exact ih (u8:=a1) (u9:=a2) (fG:=b1) (eU:=b2) (gq:=b3) (cN:=b4) (cO:=b5) (u16:=b6) G0 z.upz q2 (Nat.lt_of_le_of_lt q4 (Nat.lt_of_lt_of_le NI (Nat.le_of_lt_succ hk))) fun Z H3 σ3 c3 x1 x2 x3 x4 x5 x6 x7=>κ ((d,aN F)::Z) H3 σ3 c3 (.aa3 o1 q1 x1) x2 (l0.trans x3) x4
     (fun p hp=>(bw.mp hp).elim (fun e=>by exact aa e (x3 _ _ up_eq)) (x5 p)) (fnd (x6.iff q3)) (Nat.lt_of_le_of_lt (Nat.le_trans x7 q4) NI)
theorem EA{Γ:Prop}:∀{F:List Fm}{σ:Dz}{c c0:Cm}{H:Hp}{u8 u9 fG eU gq cN cO u16:Option AV},Gk X c0→vo c0→Si X c0 F σ c H→mu X F<k→
  (∀H' ck c',v8 (X.n+2) (X.lm u8 u9 fG eU gq cN cO u16) H none H'→X.rep ck c' H'→Le c0 c'→X.good [] ck→(∀s,¬Todo X.P.V X.D X.C F s)→Γ)→
  (∀H' ck c' F' d A s,v8 (X.n+2) (X.lm u8 u9 fG eU gq cN cO u16) H (some (.loc d)) H'→X.rep ck c' H'→Le c0 c'→X.good F' ck→F'.length≤X.P.V.length→c' (.z d)=some (d,.dict (dh A) 0)→(A.map (·.1)).Perm X.P.V→Todo X.P.V X.D X.C F s→Ext A s→Γ)→Γ:=by
 induction k with
 |zero=>exact fun _ _ _ h=>absurd h (Nat.not_lt_zero _)
 |succ k ih=>
  intro F σ c c0 H u8 u9 fG eU gq cN cO u16 G z S hk eS fK;refine ya (u8:=u8) (u9:=u9) (fG:=fG) (eU:=eU) (gq:=gq) (cN:=cN) (cO:=cO) (u16:=u16) G z S (fun H' o1 o2 o3=>?_) (fun F' ck c' H' a1 a2 a3 a4 a5 a6 a7 a8 o1 o2 o3 o4=>?_) fun d c' H' a1 a2 o1 o2 o3 o4 o5=>?_
  ·cases o3 with
   |mk ck c' r l g=>exact eS H' ck c' (.fin o1) r l g o2
  ·exact ih (u8:=a1) (u9:=a2) (fG:=a3) (eU:=a4) (gq:=a5) (cN:=a6) (cO:=a7) (u16:=a8) G z o2 (Nat.lt_of_lt_of_le o4 (Nat.le_of_lt_succ hk)) (fun H2 vp c2 q1 q2 q3 q4 q5=>eS H2 vp c2 (.cont o1 q1) q2 q3 q4 fun s w=>q5 s ((o3 s).mp w))
    fun H2 vp c2 F2 d A s q1 q2 q3 q4 q5 q6 q7 q8 q9=>fK H2 vp c2 F2 d A s (.cont o1 q1) q2 q3 q4 q5 q6 q7 ((o3 s).mpr q8) q9
  ·exact fK H' σ c' F d (aN F) (fnOf (aN F)) (.yld o1) o5.rep o5.le o5.good o5.ok.len o3 (z7 S.ok G.K.Xu o2) (.inl ⟨DK S.ok o2 fun W hW=>(G.K.hC W hW).2,mO⟩) mO
end
section
variable{P:Pb}{D:Str→List Int}{C:List (List Str)}{F:List Fm}{σ:Dz}{c c0:Cm}{H:Hp}{n lS dS:Nat}{cv:AV}
structure SvC(lS dS:Nat)(c:Cm):Prop where
 i:c (.a 6)=some (lS,.inst .backtracking dS)
 f:c (.a 7)=some (dS,.attrs [(.cy,.bool true)])
noncomputable def lmP(P:Pb)(lS:Nat)(cv:AV):LM:=[some (.loc lS),some (.loc P.lD),some cv,some (.loc P.lC),none,none,none,none,none,none,none,none,none,none,none,none,none]
theorem JC(z:vo c0)(sv:SvC lS dS c0)(g:Good P.V D C [] σ)(ne:NE P.V [] σ)(R:Rep (mix P.L P.V σ c0) H){Γ:Prop}(κ:∀H' lA lQ c,fS (n+2) kT (lmP P lS cv) H .next (Gx.lm ⟨P,D,C,lA,lQ,n,.loc lS,cv⟩ none none none none none none none none) H'→Si ⟨P,D,C,lA,lQ,n,.loc lS,cv⟩ c0 [] σ c H'→Γ):Γ:=by
 refine R.fY (.a 3) rfl (.dict (dh []) 0) (by decide:0<bQ) fun H1 lA p1 R1 g1=>?_;refine R1.fY (.a 4) rfl (.list (qs [])) (by decide:0<bQ) fun H2 lQ p2 R2 g2=>?_;exact κ H2 lA lQ _ (aA (cC (fQ (aj rfl) (oq (R.gM rfl sv.i)) (R.gM rfl sv.f) rfl)) (aA (cC (nC p1)) (aS (cC (b9 aq p2))))) ({rep:=R2,le:=Le.up (Le.up (fun _ _ e=>e) z.a3) z.a4,n0:=z.a0,asg:=⟨0,aL up_eq rfl⟩,EV:=up_eq,fr:=trivial,ok:=trivial,good:=g,ne:=ne})
theorem xK:Todo P.V D C [] s↔ur P.V D C s:=by
 show(ur P.V D C s∧Ext [] s)∨False↔_;rw[or_false];exact⟨fun h=>h.1,fun h=>⟨h,fun k a q=>(Cv q)⟩⟩
theorem RL(K:Kn P D C)(h3:3^P.V.length<900)(pc:IP P c0)(z:vo c0)(sv:SvC lS dS c0)(g:Good P.V D C [] σ)(ne:NE P.V [] σ)(R:Rep (mix P.L P.V σ c0) H){Γ:Prop}(κ:∀Z l H' ck c',Cf (n+3) .aZ [.loc lS,.loc P.lD,cv,.loc P.lC] H (.loc l) H'→Rep (mix P.L P.V ck (Xy c0 c')) H'→Le c0 c'→Good P.V D C [] ck→c' (.z l)=some (l,.list (Z.map fun p=>.loc p.1))→ZC Z c'→Found (V:=P.V) (Z.map (·.2)) (ur P.V D C)→Z.length<900→Γ):Γ:=by
 refine JC (n:=n) (cv:=cv) z sv g ne R fun H1 lA lQ c e1 S=>?_;refine LV (u8:=none) (u9:=none) (fG:=none) (eU:=none) (gq:=none) (cN:=none) (cO:=none) (u16:=none) ⟨K,pc⟩ z S (Nat.lt_succ_self _) fun Z H2 vp c2 e2 R2 IQ g2 zc fd len=>?_;have acz:Z.length<900:=Nat.lt_of_le_of_lt (Nat.le_trans len (Nat.le_of_eq ZZ)) h3;refine R2.jF (.list (Z.map fun p=>.loc p.1)) (by show(jN _ _).length<bQ;rw[bR];exact mq (Nat.lt_trans acz (by decide))) fun H3 l p3 R3 g3 z3=>?_;haveI l3:=jG (p:=(l,AO.list (Z.map fun p=>.loc p.1))) z3;exact κ Z l H3 vp _ (p3.e fun s=>ZL (R.gM rfl sv.i) (R.gM rfl sv.f) e1 e2 s) (rO R3 (IQ.trans l3)) (IQ.trans l3) g2 up_eq (fun p hp=>l3 _ _ (zc p hp)) (fd.iff fun s=>xK.symm) acz
theorem RM(K:Kn P D C)(pc:IP P c0)(z:vo c0)(sv:SvC lS dS c0)(g:Good P.V D C [] σ)(ne:NE P.V [] σ)(R:Rep (mix P.L P.V σ c0) H){Γ:Prop}
  (eS:∀H' ck c',Cf (n+3) .bl [.loc lS,.loc P.lD,cv,.loc P.lC] H .none H'→Rep (mix P.L P.V ck (Xy c0 c')) H'→Le c0 c'→Good P.V D C [] ck→(∀s,¬ur P.V D C s)→Γ)
  (fK:∀H' ck c' F' d A s,Cf (n+3) .bl [.loc lS,.loc P.lD,cv,.loc P.lC] H (.loc d) H'→Rep (mix P.L P.V ck (Xy c0 c')) H'→Le c0 c'→Good P.V D C F' ck→F'.length≤P.V.length→c' (.z d)=some (d,.dict (dh A) 0)→(A.map (·.1)).Perm P.V→ur P.V D C s→Ext A s→Γ):Γ:=by
 refine JC (n:=n) (cv:=cv) z sv g ne R fun H1 lA lQ c e1 S=>?_;exact EA (u8:=none) (u9:=none) (fG:=none) (eU:=none) (gq:=none) (cN:=none) (cO:=none) (u16:=none) ⟨K,pc⟩ z S (Nat.lt_succ_self _)
  (fun H2 vp c2 e2 R2 IQ g2 h2=>eS H2 vp c2 (Qg (R.gM rfl sv.i) (R.gM rfl sv.f) e1 e2) (rO R2 IQ) IQ g2 fun s q=>h2 s (xK.mpr q))
  fun H2 vp c2 F2 d A s e2 R2 IQ g2 f2 h1 h2 h3 h4=>fK H2 vp c2 F2 d A s (Qg (R.gM rfl sv.i) (R.gM rfl sv.f) e1 e2) (rO R2 IQ) IQ g2 f2 h1 h2 (xK.mp h3) h4
end
structure eG(S:Ro→Bool)(c c':Cm):Prop where
 at':∀r,r.nz=true→S r=false→c' r=c r
 z:∀l p,c (.z l)=some p→c' (.z l)=some p
theorem eG.k{S:Ro→Bool}(g:eG S c c')(h:c r=q)(n:r.nz=true)(s:S r=false):c' r=q:=(g.1 r n s).trans h
theorem eG.refl{S:Ro→Bool}:eG S c c:=⟨fun _ _ _=>rfl,fun _ _ h=>h⟩
theorem eG.trans{S:Ro→Bool}(h:eG S a b)(k:eG S b c):eG S a c:=⟨fun r n s=>(k.1 r n s).trans (h.1 r n s),fun l p e=>k.2 l p (h.2 l p e)⟩
theorem bk{S:Ro→Bool}(n:r.nz=true)(s:S r=true):eG S c (c.up r p):=⟨fun r' _ s'=>aX (fun q=>by rw[q,s]at s';cases s'),fun l q e=>(aX (fun z=>by rw[←z]at n;cases n)).trans e⟩
theorem nX{S:Ro→Bool}(n:c (.z l)=none):eG S c (c.up (.z l) p):=⟨fun r' n' _=>aX (fun q=>by rw[q]at n';cases n'),fun l q e=>jG n _ _ e⟩
theorem eG.le{S:Ro→Bool}(h:eG S c c')(l:Le c0 c)(z:∀r,S r=true→c0 r=none):Le c0 c':=fun r p e=>by
 cases r with
 |z k=>exact h.2 _ _ (l _ _ e)
 |_=>
  refine(h.1 _ rfl ?_).trans (l _ _ e);cases q:S _ with
  |false=>rfl
  |true=>rw[z _ q]at e;cases e
theorem eG.mono{S S':Ro→Bool}(h:eG S c c')(s:∀r,S r=true→S' r=true):eG S' c c':=⟨fun r n q=>h.1 r n (by
 cases w:S r with
 |false=>rfl
 |true=>rw[s r w]at q;cases q),h.2⟩
noncomputable def Vt.core(k:Vt):Vt:={k with t:=0}
noncomputable def eZ(K:List Vt):List AV:=K.map fun k=>.loc k.t
noncomputable abbrev Vt.at(k:Vt)(t:Nat):Vt:=⟨t,k.o,k.d,k.p,k.W⟩
structure JT(k:Vt)(c:Cm):Prop where
 t:c (.z k.t)=some (k.t,.tuple [.loc k.o,.loc k.p])
 o:c (.z k.o)=some (k.o,.inst .dN k.d)
 p:c (.z k.p)=some (k.p,.list (aW k.W))
 d:c (.z k.d)=some (k.d,.attrs [])
theorem JT.chg{S:Ro→Bool}(h:JT k c)(g:eG S c c'):JT k c':=⟨g.2 _ _ h.t,g.2 _ _ h.o,g.2 _ _ h.p,g.2 _ _ h.d⟩
theorem JT.atT{S:Ro→Bool}{t:Nat}(h:JT k c)(g:eG S c c')(ht:c' (.z t)=some (t,.tuple [.loc k.o,.loc k.p])):JT (k.at t) c':=⟨ht,g.2 _ _ h.o,g.2 _ _ h.p,g.2 _ _ h.d⟩
def sQ(K:List Vt)(c:Cm):Prop:=∀k∈K,JT k c
theorem sQ.chg{S:Ro→Bool}(h:sQ K c)(g:eG S c c'):sQ K c':=fun k hk=>(h k hk).chg g
theorem sQ.tail(h:sQ (k::K) c):sQ K c:=fun k' hk=>h k' (cZ _ hk)
theorem sQ.cons(h:JT k c)(f:sQ K c):sQ (k::K) c:=fun k' hk=>(bw.mp hk).elim (fun e=>e▸h) (f k')
theorem mC(h:xs.length<1000):small (.list xs):=mq h
theorem sQ.app(h:sQ K c)(g:sQ K' c):sQ (K++K') c:=fun k hk=>(dc.mp hk).elim (h k) (g k)
noncomputable def jc(l:List Nat)(b:Bool):Ro→Bool
 |.a n=>l.contains n
 |.b n _=>b&&n==0
 |_=>false
theorem DT(h:∀n,n∈l→n∈l')(k:jc l b r=true):jc l' true r=true:=by
 cases r<;>first|exact nf k|exact Cv k|(cases k;done)|skip
 ·exact rq.mpr (h _ (rq.mp k))
 ·exact(uA _ _▸k:b=true∧_).2
noncomputable abbrev acA:Ro→Bool:=jc [14] false
noncomputable abbrev isB:Ro→Bool:=jc [2] true
noncomputable def lmH(lP l1 l2 l3:Nat)(u4 u5 u6 u7 u8:Option AV):LM:=[some (.loc lP),some (.loc l1),some (.loc l2),some (.loc l3),u4,u5,u6,u7,u8]
structure Gy where
 L:DL
 V:List Str
 n:Nat
 lP:Nat
 l1:Nat
 l2:Nat
 l3:Nat
noncomputable abbrev Gy.lm(Y:Gy)(u4 u5 u6 u7 u8:Option AV):LM:=lmH Y.lP Y.l1 Y.l2 Y.l3 u4 u5 u6 u7 u8
abbrev Gy.rep(Y:Gy)(σ:Dz)(c:Cm)(H:Hp):Prop:=Rep (mix Y.L Y.V σ c) H
theorem Dg{K1 Ks:List α}(h:K1.length+(Ks.length+1)<m):(K1++[x]).length+Ks.length<m:=by rw[bU,Nat.add_assoc,Nat.add_comm _ Ks.length];exact h
theorem MX(h:a+b<900):a<999:=Nat.lt_of_le_of_lt (Nat.le_add_right _ _) (Nat.lt_trans h (by decide))
section
variable{Y:Gy}{σ:Dz}{c:Cm}{H:Hp}{l6 lK:Nat}{u4 u5 u6 u7 u8:Option AV}{cD:Hp→Prop}{X:List AV}
theorem aeg(R:Y.rep σ c H)(h:JT k c)(ne:k.W≠[]):Tr (.loc k.p) H true:=by
 haveI tr:=nE (R.gM rfl h.p)
 rwa [show(aW k.W).isEmpty=false by
  delta aW;cases q:k.W with
  |nil=>exact absurd q ne
  |cons=>rfl]at tr
theorem WX{n:Nat}{k:Vt}{S:Ro→Bool}(R:Y.rep σ c H)(hr:c r=some (l,.list (eZ K1)))(nd:r.nd=true)(nz:r.nz=true)(Sr:S r=true)(he:Ev n le lm H (.loc l) H)(l4:lm[4]? =some (some (.loc k.o)))(l5:lm[5]? =some (some (.loc k.p)))(sz:K1.length<999){Γ:Prop}
  (κ:∀H2 t c',En n (.expr (.cQ le .append (.cons (.tup (.cons (.var 4) (.cons (.var 5) .nil))) .nil))) lm H .next lm H2→Y.rep σ c' H2→eG S c c'→(∀r',r'.nz=true→r'≠r→c' r'=c r')→c' r=some (l,.list (eZ (K1++[k.at t])))→c' (.z t)=some (t,.tuple [.loc k.o,.loc k.p])→Γ):Γ:=by
 haveI hq:=R.gM nd hr;have nzr:∀l,Ro.z l≠r:=fun l q=>by rw[←q]at nz;cases nz
 refine R.jF (.tuple [.loc k.o,.loc k.p]) (by decide:2<bQ) fun H1 t p1 R1 g1 z1=>?_;refine R1.jM (r:=r) ((aX fun q=>nzr _ q.symm).trans hr) nd (.list (eZ K1++[.loc t])) (mC (by unfold eZ;rw[bU,bR];exact Nat.succ_lt_succ sz)) fun H2 p2 R2=>?_;exact κ H2 t _ (dM (d9 he (gG hq rfl) (ai (oR (ai (aj l4) (ai (aj l5) aq)) p1) aq) (ir (yW (g1 hq)) p2))) R2 ((nX z1).trans (bk nz Sr)) (fun r' n' q=>(aX q).trans (aX fun w=>by rw[w]at n';cases n')) (by refine aa up_eq ?_;unfold eZ;refine aa ic ?_;rfl) ((aX (nzr _)).trans up_eq)
noncomputable abbrev gB1:SL:=gI.tl.tl.tl.hd.b1
theorem ga1(bZ:∀{c H},Y.rep σ c H→c (.a 12)=some (lK,.list X)→cD H){Γ:Prop}{Ks:List Vt}:∀{K1:List Vt}{c:Cm}{H:Hp}{u4 u5:Option AV},Y.rep σ c H→c (.a 12)=some (lK,.list X)→sQ Ks c→(∀k∈Ks,k.W≠[])→c (.a 14)=some (Y.l3,.list (eZ K1))→K1.length+Ks.length<900→
  (∀CH JU H' c' K2,Tn (fS (Y.n+4) gB1) (.many [4,5]) cD (eZ Ks) (Y.lm u4 u5 u6 u7 u8) H none (Y.lm CH JU u6 u7 u8) H'→Y.rep σ c' H'→eG acA c c'→c' (.a 14)=some (Y.l3,.list (eZ (K1++K2)))→sQ K2 c'→K2.map Vt.core=Ks.map Vt.core→Γ)→Γ:=by
 induction Ks with
 |nil=>exact fun R Xz hK hW yZ sz κ=>κ _ _ _ _ [] .nil R .refl (by rw[eW];exact yZ) (fun k hk=>(nx hk)) rfl
 |cons k Ks ih=>
  intro K1 c H u4 u5 R Xz hK hW yZ sz κ;haveI h:=hK k cI;refine WX (k:=k) (S:=acA) (le:=.var 3) (n:=Y.n+4) (lm:=Y.lm (some (.loc k.o)) (some (.loc k.p)) u6 u7 u8) R yZ rfl rfl rfl (aj rfl) rfl rfl (MX sz) fun H2 t c2 e2 R2 g o Wd az=>?_;exact ih (u4:=some (.loc k.o)) (u5:=some (.loc k.p)) R2 (g.k Xz rfl rfl) (hK.tail.chg g) (fun k' sI=>hW k' (cZ _ sI)) Wd (Dg sz) fun CH JU H' c' K2 a b d e f m=>
   κ CH JU H' c' (k.at t::K2) (dm (xg (R.gM rfl h.t) rfl) (aA (bF (gu (fB rfl (aeg R h (hW k cI)))) bD) (aS e2)) (bZ R2 (g.k Xz rfl rfl)) a) b (g.trans d) (by rw[gQ]at e;exact e) (.cons ((h.atT g az).chg d) f) (aR (wY k.core) m)
noncomputable abbrev gB2:SL:=gI.tl.tl.tl.tl.tl.hd.b1
noncomputable def yv(vl:Str→Nat)(W:List Str):List (AV×AV):=W.map fun x=>(.str x,.loc (vl x))
theorem Z0:∀{W:List Str},x∉W→dput (.str x) (.loc l) (yv vl W)=yv (fset vl x l) (W++[x]):=by
 intro rv
 induction rv with
 |nil=>
  intro _;delta yv dput;rw[Ov,gC,aU];rfl
 |cons y W ih=>
  intro h;haveI ne:y≠x:=fun q=>h (q▸cI);show(if AV.str y=.str x then(.str y,.loc l)::yv vl W else(.str y,.loc (vl y))::dput (.str x) (.loc l) (yv vl W))=(.str y,.loc (fset vl x l y))::yv (fset vl x l) (W++[x])
  (refine aa (au (fun q=>ne (AV.str.inj q))) (aa (ih (fun q=>h (cZ _ q))) ?_);refine aa (aP ne) ?_;with_reducible rfl)
theorem ga2(bZ:∀{c H},Y.rep σ c H→c (.a 1)=some (Y.l1,.dict (bW Y.L Y.V) 0)→cD H){Γ:Prop}:∀{W1:List Str}{vl:Str→Nat}{ep:Nat}{c:Cm}{H:Hp}{u7:Option AV},Y.rep σ c H→c (.a 1)=some (Y.l1,.dict (bW Y.L Y.V) 0)→(W1++W).Nodup→c (.a 2)=some (l6,.dict (yv vl W1) ep)→(∀x∈W1,c (.b 0 x)=some (vl x,.list []))→W1.length+W.length<900→
  (∀qf H' c' Cz yp,Tn (fS (Y.n+4) gB2) (.one 7) cD (aW W) (Y.lm u4 u5 (some (.loc l6)) u7 u8) H none (Y.lm u4 u5 (some (.loc l6)) qf u8) H'→Y.rep σ c' H'→eG isB c c'→c' (.a 2)=some (l6,.dict (yv Cz (W1++W)) yp)→(∀x∈W1++W,c' (.b 0 x)=some (Cz x,.list []))→Γ)→Γ:=by
 induction W with
 |nil=>intro W1 vl ep c H u7 R h1 nd h2 hb sz κ;exact κ u7 H c vl ep .nil R .refl (by rw[eW];exact h2) (by rw[eW];exact hb)
 |cons x W ih=>
  intro W1 vl ep c H u7 R h1 nd h2 hb sz κ;have nx:x∉W1:=fun q=>(oH.mp nd).2.2 x q x cI rfl;refine R.fY (.b 0 x) rfl (.list []) (by decide:0<bQ) fun H1 l p1 R1 g1=>?_;have S8:(c.up (.b 0 x) (l,.list [])) (.a 2)=_:=aL h2 rfl;refine R1.jM (r:=.a 2) S8 rfl (.dict (yv (fset vl x l) (W1++[x])) (if(dJ (.str x) (yv vl W1)).isSome then ep else ep+1)) (by show(jN _ _).length<bQ;rw[bR,bU];exact mq (Nat.lt_of_lt_of_le (Nat.succ_lt_succ (MX sz)) (Nat.le_refl _))) fun H2 p2 R2=>?_
  haveI g:eG isB c ((c.up (.b 0 x) (l,.list [])).up (.a 2) (l6,.dict (yv (fset vl x l) (W1++[x])) (if(dJ (.str x) (yv vl W1)).isSome then ep else ep+1))):=(bk rfl rfl).trans (bk rfl rfl)
  have sp:W1++x::W=(W1++[x])++W:=by rw[gQ];rfl
  rw[sp]at nd κ;exact ih (u7:=some (.str x)) R2 (g.k h1 rfl rfl) nd up_eq (fun y hy=>aL ((dc.mp hy).elim (fun hy=>by
   have ne:y≠x:=fun q=>nx (q▸hy)
   (refine aa (aX (fun q=>ne (by cases q;rfl))) ?_;refine aa (aP ne) ?_);exact hb y hy) fun hy=>by(refine aa (bO.mp hy) (aa up_eq ?_);refine aa aU ?_;with_reducible rfl)) rfl) (Dg sz) fun qf H' c' Cz yp a b d e f=>
   κ qf H' c' Cz yp (dm fM (aS (zA (b9 aq p1) (aj rfl) (aj rfl) (J8 (R1.gM (r:=.a 2) rfl S8) rfl (Z0 nx▸p2)))) (bZ R2 (g.k h1 rfl rfl)) a) b (g.trans d) e f
end
noncomputable abbrev TJ:Ro→Bool:=jc [] true
noncomputable abbrev isP:Ro→Bool:=jc [14,19] true
theorem HC:∀{W:List Str},y∈W→dJ (.str y) (yv vl W)=some (.loc (vl y))
 |x::W,h=>by
  show(if AV.str x=.str y then some (AV.loc (vl x))else dJ (.str y) (yv vl W))=_
  by_cases e:x=y
  ·(refine aa (aF (aR _ e)) (aa e ?_);with_reducible rfl)
  ·(refine aa (au (fun q=>e (AV.str.inj q))) (aa (HC ((bw.mp h).resolve_left (fun q=>e q.symm))) ?_);with_reducible rfl)
structure Vb(Y:Gy)(vl:Str→Nat)(vcs:Str→List Vt)(c:Cm):Prop where
 b:∀x∈Y.V,c (.b 0 x)=some (vl x,.list (eZ (vcs x)))
 f:∀x∈Y.V,sQ (vcs x) c
section
variable{Y:Gy}{σ:Dz}{c:Cm}{H:Hp}{l6:Nat}{u4 u5 u7 u8:Option AV}{cD:Hp→Prop}{X:List AV}{vl:Str→Nat}{ep:Nat}
noncomputable abbrev gB3:SL:=gI.tl.tl.tl.tl.tl.tl.hd.b1
theorem Vb.add{k:Vt}(h:Vb Y vl vcs c)(g:eG TJ c c')(o:∀r',r'.nz=true→r'≠.b 0 y→c' r'=c r')(hb:c' (.b 0 y)=some (vl y,.list (eZ (vcs y++[k.at t]))))(hk:JT (k.at t) c'):Vb Y vl (fset vcs y (vcs y++[k.at t])) c':=
 ⟨fun x hx=>by
  by_cases q:x=y
  ·(refine aa q (aa aU ?_));exact hb
  ·refine aa (aP q) ?_;exact(o _ rfl fun z=>q (by cases z;rfl)).trans (h.b x hx),fun x hx=>by
  by_cases q:x=y
  ·(refine aa q (aa aU ?_));exact((h.f y (q▸hx)).chg g).app fun k' sI=>bO.mp sI▸hk
  ·exact aa (aP q) ((h.f x hx).chg g)⟩
theorem aeh(bZ:∀{c H},Y.rep σ c H→JT k c→cD H){Γ:Prop}:∀{vcs:Str→List Vt}{c:Cm}{H:Hp}{u7:Option AV},Y.rep σ c H→JT k c→W.Nodup→(∀y∈W,y∈Y.V)→c (.a 2)=some (l6,.dict (yv vl Y.V) ep)→Vb Y vl vcs c→(∀x∈W,(vcs x).length<900)→
  (∀(qf:Option AV)(H':Hp)(c':Cm)(Aq:Str→List Vt),Tn (fS (Y.n+4) gB3.hd.b1) (.one 7) cD (aW W) (Y.lm (some (.loc k.o)) (some (.loc k.p)) (some (.loc l6)) u7 u8) H none (Y.lm (some (.loc k.o)) (some (.loc k.p)) (some (.loc l6)) qf u8) H'→Y.rep σ c' H'→eG TJ c c'→Vb Y vl Aq c'→(∀x,(Aq x).map Vt.core=(vcs x).map Vt.core++if x∈W then [k.core]else [])→Γ)→Γ:=by
 induction W with
 |nil=>exact fun{vcs c H u7} R hk nd hV h2 hb sz κ=>κ u7 H c vcs .nil R .refl hb fun x=>by rw[au (fun q=>(nx q)),eW]
 |cons y W ih=>
  intro vcs c H u7 R hk nd hV h2 hb sz κ;haveI hy:=hV y cI;haveI uS:=dO.mp nd;refine WX (k:=k) (S:=TJ) (r:=.b 0 y) (le:=.sub (.var 6) (.var 7)) (n:=Y.n+4) (lm:=Y.lm (some (.loc k.o)) (some (.loc k.p)) (some (.loc l6)) (some (.str y)) u8) R (hb.b y hy) rfl rfl rfl (gR (aj rfl) (aj rfl) (oW (R.gM rfl h2) (HC hy))) rfl rfl (Nat.lt_trans (sz y cI) (by decide)) fun H2 t c2 e2 R2 g o hb2 az=>?_;refine ih (vcs:=fset vcs y (vcs y++[k.at t])) (u7:=some (.str y)) R2 (hk.chg g) uS.2 (fun x hx=>hV x (cZ _ hx)) (g.k h2 rfl rfl) (hb.add g o hb2 (hk.atT g az)) (fun x hx=>by
   exact aa (aP (fun(q:x=y)=>uS.1 (q▸hx))) (sz x (cZ _ hx))) fun qf H' c' Aq a b d e m=>?_
  refine κ qf H' c' Aq (dm fM (aS e2) (bZ R2 (hk.chg g)) a) b (g.trans d) e fun x=>(m x).trans ?_
  by_cases q:x=y
  ·rw[q,aU,au uS.1,aF cI,ic,eW];rfl
  ·refine aa (aP q) ?_
   by_cases w:x∈W
   ·(refine aa (aF w) (aa (aF (cZ _ w)) ?_);with_reducible rfl)
   ·(refine aa (au w) (aa (au (fun z=>(bw.mp z).elim q w)) ?_);with_reducible rfl)
theorem ga3(bZ:∀{c H},Y.rep σ c H→c (.a 14)=some (Y.l3,.list X)→cD H){Γ:Prop}{Ks:List Vt}:∀{vcs:Str→List Vt}{c:Cm}{H:Hp}{u4 u5 u7:Option AV},Y.rep σ c H→c (.a 14)=some (Y.l3,.list X)→sQ Ks c→(∀k∈Ks,k.W.Nodup∧∀y∈k.W,y∈Y.V)→c (.a 2)=some (l6,.dict (yv vl Y.V) ep)→Vb Y vl vcs c→(∀x,(vcs x).length+Ks.length<900)→
  (∀(CH JU qf:Option AV)(H':Hp)(c':Cm)(Aq:Str→List Vt),Tn (fS (Y.n+4) gB3) (.many [4,5]) cD (eZ Ks) (Y.lm u4 u5 (some (.loc l6)) u7 u8) H none (Y.lm CH JU (some (.loc l6)) qf u8) H'→Y.rep σ c' H'→eG TJ c c'→Vb Y vl Aq c'→(∀x,(Aq x).map Vt.core=(vcs x).map Vt.core++(Ks.filter fun k=>decide (x∈k.W)).map Vt.core)→Γ)→Γ:=by
 induction Ks with
 |nil=>exact fun{vcs c H u4 u5 u7} R yZ hK hW h2 hb sz κ=>κ u4 u5 u7 H c vcs .nil R .refl hb fun x=>(eW _).symm
 |cons k Ks ih=>
  intro vcs c H u4 u5 u7 R yZ hK hW h2 hb sz κ;haveI h:=hK k cI;haveI XA:=R.gM rfl h.p;haveI w:=hW k cI;refine aeh (u8:=u8) (cD:=gW H k.p) (k:=k) (fun R' h=>bq XA (R'.gM rfl h.p) rfl) (W:=k.W) (vcs:=vcs) (u7:=u7) R h w.1 w.2 h2 hb (fun x hx=>Nat.lt_of_le_of_lt (Nat.le_add_right _ _) (sz x)) fun v7 H1 c1 acB a b d e m=>?_;haveI len:∀x,(acB x).length≤(vcs x).length+1:=fun x=>by
   rw[←bR (f:=Vt.core),m,bU,bR];refine Nat.add_le_add_left ?_ _
   split
   ·exact Nat.le_refl _
   ·exact Nat.zero_le _
  refine ih (vcs:=acB) (u4:=some (.loc k.o)) (u5:=some (.loc k.p)) (u7:=v7) b (d.k yZ rfl rfl) (hK.tail.chg d) (fun k' sI=>hW k' (cZ _ sI)) (d.k h2 rfl rfl) e (fun x=>Nat.lt_of_le_of_lt (Nat.add_le_add_right (len x) _) (by rw[Nat.add_assoc,Nat.add_comm 1];exact sz x)) fun CH JU qf H' c' Aq a2 b2 d2 e2 m2=>?_;refine κ CH JU qf H' c' Aq (dm (xg (R.gM rfl h.t) rfl) (aS (gS (aj rfl) (bL XA) a bD)) (bZ b (d.k yZ rfl rfl)) a2) b2 (d.trans d2) e2 fun x=>?_;rw[m2,m,gQ]
  by_cases q:x∈k.W
  ·(refine aa (aF q) (aa (CZ (by exact bN q)) ?_));rfl
  ·(refine aa (au q) (aa (we (by rw[bP q];decide)) ?_));rfl
end
theorem eqT(h:H[a]? =some (.tuple [.loc o,.loc p]))(k:H[b]? =some (.tuple [.loc o,.loc p])):CD 3 H (.loc a) (.loc b) true:=by
 by_cases e:a=b
 ·subst e;exact pq
 ·refine Bu e (YH (k:=2) (f:=fun _=>true) h k rfl fun j x y hx hy=>?_);rw[hx]at hy;cases hy
  match j,hx with
  |0,hx=>cases hx;exact pq
  |1,hx=>cases hx;exact pq
theorem DU(h:CD 3 H y u true):Rm H u (y::ys) ys:=⟨0,.here h,rfl⟩
section
variable{L:DL}{V:List Str}{σ:Dz}{c c0:Cm}{H:Hp}{n lD JV l2 o p d:Nat}{u4 u5 u6 u7 u8:Option AV}{cD:Hp→Prop}{X:List AV}{vl:Str→Nat}{ep JR:Nat}{x:Str}
noncomputable def TN(o p lD JV l2:Nat)(u5 u6 u7:Option AV):LM:=[some (.loc o),some (.loc p),some (.loc lD),some (.loc JV),some (.loc l2),u5,u6,u7]
noncomputable abbrev aei:SL:=qn.hd.b1.tl.tl.hd.b1
theorem RN(ho:c (.z o)=some (o,.inst .dN d))(hp:c (.z p)=some (p,.list (aW [x])))(hD:c (.a 1)=some (lD,.dict (bW L V) JR))(c0:c (.a 0)=none)(c18:c (.a 18)=none)(hx:x∈V)(sz:Sz V σ)
  (bZ:∀{H},Rep (mix L V σ c) H→cD H) {Γ:Prop}:∀{H:Hp}{u7:Option AV},Rep (mix L V σ c) H→
  (∀qf H',Tn (fS (n+2) aei) (.one 7) cD (aO vs) (TN o p lD JV l2 (some (.str x)) (some (.loc (L.d x))) u7) H none (TN o p lD JV l2 (some (.str x)) (some (.loc (L.d x))) qf) H'→Rep (mix L V σ c) H'→Γ)→Γ:=by
 induction vs with
 |nil=>exact fun{H u7} R κ=>κ u7 H .nil R
 |cons v vs ih=>
  intro H u7 R κ;refine R.fY (.a 18) rfl (.dict (dh [(x,v)]) 1) (by decide:1<bQ) fun H1 l p1 R1 g1=>?_;refine Ju (n:=n) (self:=.loc o) (fw:=.bool false) (fwd:=false) (asg:=[(x,v)]) (W:=[x]) (rW:=.z p) (rA:=.a 18) (rD:=.a 1) (aL c0 rfl) (aL hp rfl) rfl up_eq rfl (aL hD rfl) rfl (fun y hy=>by exact aa (bO.mp hy) hx) (Nat.lt_of_lt_of_le (Nat.lt_succ_self 1) (by decide)) R1 (fun _=>eT) sz fun H2 e2 R2 _=>?_;rw[show aC [(x,v)] [x] false σ=(true,σ) by
   unfold aC seenOf dK;refine aa (aF rfl) ?_;dsimp only;refine aa (au (fun z=>(nx z))) ?_;rfl]at e2 R2
  have R3:Rep (mix L V σ c) H2:=R2.leM fun r q _ e=>kG c18 e;have call:Ev (n+2) (.call (.var 0) (.cons (.var 1) (.cons (.var 2) (.cons (.C3 (.var 5) (.var 7)) (.cons (.lit (.bool false)) .nil))))) (TN o p lD JV l2 (some (.str x)) (some (.loc (L.d x))) (some (.int v))) H (.bool true) H2:=
   P5 rfl (ai (aj rfl) (ai (aj rfl) (ai (UP rfl rfl rfl p1) (ai aT aq)))) (Wu (R1.gM rfl (aL ho rfl)) e2)
  exact ih (u7:=some (.int v)) R3 fun qf H' a b=>κ qf H' (dm fM (aS (bF (gu (jP call eT)) bD)) (bZ R3) a) b
theorem aej{k1 k2:Vt}(R:Rep (mix L V σ c) H)(ho:c (.z o)=some (o,.inst .dN d))(hp:c (.z p)=some (p,.list (aW [x])))(hD:c (.a 1)=some (lD,.dict (bW L V) JR))(c0:c (.a 0)=none)(c18:c (.a 18)=none)(hx:x∈V)(sz:Sz V σ)
  (yZ:c (.a 14)=some (JV,.list (eZ (k1::K1)))) (h2:c (.a 2)=some (l2,.dict (yv vl V) ep)) (hb:c (.b 0 x)=some (vl x,.list (eZ (k2::K2)))) (f1:c (.z k1.t)=some (k1.t,.tuple [.loc o,.loc p])) (f2:c (.z k2.t)=some (k2.t,.tuple [.loc o,.loc p])) (s1:K1.length<900) (s2:K2.length<900) {Γ:Prop} (κ:∀H' c',Cf (n+3) .fW [.loc o,.loc p,.loc lD,.loc JV,.loc l2] H .none H'→Rep (mix L V σ c') H'→eG isP c c'→c' (.a 14)=some (JV,.list (eZ K1))→c' (.b 0 x)=some (vl x,.list (eZ K2))→(∀y,y≠x→c' (.b 0 y)=c (.b 0 y))→Γ):Γ:=by
 haveI z:=sz x hx;haveI XA:=R.gM rfl hp;refine R.fY (.a 19) rfl (.list (aO (σ.bS x))) (dH (Nat.lt_of_le_of_lt (Nat.le_add_right _ _) (Nat.lt_trans z.1 (by decide)))) fun H1 l p1 R1 g1=>?_;haveI l19:=R1.gM (r:=.a 19) rfl up_eq;refine RN (n:=n) (JV:=JV) (l2:=l2) (cD:=gW H1 l) (aL ho rfl) (aL hp rfl) (aL hD rfl) (aL c0 rfl) (aL c18 rfl) hx sz (fun R=>bq l19 (R.gM (r:=.a 19) rfl up_eq) rfl) (vs:=σ.bS x) (u7:=none) R1 fun u7 H2 e2 R2=>?_;refine R2.tmp (.tuple [.loc o,.loc p]) (by decide:2<bQ) fun H3 t3 p3 R3 g3 h3 _=>?_;haveI Wd:=(aX (c:=c) (r:=.a 19) (r':=.a 14) (p:=(l,.list (aO (σ.bS x)))) (by decide)).trans yZ;refine R3.jM Wd rfl (.list (eZ K1)) (mC (by delta eZ;rw[bR];exact Nat.lt_trans s1 (by decide))) fun H4 p4 R4=>?_;refine R4.tmp (.tuple [.loc o,.loc p]) (by decide:2<bQ) fun H5 t5 p5 R5 g5 h5 _=>?_;haveI ab:=(aX (c:=c.up (.a 19) (l,.list (aO (σ.bS x)))) (r:=.a 14) (r':=.b 0 x) (p:=(JV,.list (eZ K1))) (by simp)).trans (aL hb rfl);refine R5.jM ab rfl (.list (eZ K2)) (mC (by delta eZ;rw[bR];exact Nat.lt_trans s2 (by decide))) fun H6 p6 R6=>?_;haveI g:eG isP c (((c.up (.a 19) (l,.list (aO (σ.bS x)))).up (.a 14) (JV,.list (eZ K1))).up (.b 0 x) (vl x,.list (eZ K2))):=((bk rfl rfl).trans (bk rfl rfl)).trans (bk rfl rfl);refine κ H6 _ (iB (aI:=TN o p lD JV l2 (some (.str x)) (some (.loc (L.d x))) u7) rfl rfl ?_) R6 g (aL up_eq rfl) up_eq (fun y ne=>by(refine aa (aX (fun e=>by cases e;exact ne rfl)) ?_;refine aa (aX (by simp)) (aa (aX (by simp)) ?_);with_reducible rfl));refine aS (cV (bA (bI (ai (aj rfl) aq) (rC (pS XA))) aT (gh gT)) ?_);refine aA (cC (gR (aj rfl) aT (nB XA (by decide:(0:Int)≤0) rfl))) ?_;refine aA (cC (gR (aj rfl) (aj rfl) (oW (R.gM rfl hD) (mL hx)))) ?_;refine aA (gS (Nt (aj rfl) (Qh (mV R hx)) p1) (bL l19) e2 bD) ?_;refine aA (dM (d9 (aj rfl) (gG (R2.gM (r:=.a 14) rfl Wd) rfl) (ai (oR (ai (aj rfl) (ai (aj rfl) aq)) p3) aq) (xG (yW (R3.gM (r:=.a 14) rfl Wd)) (DU (eqT (R3.gM (r:=.z k1.t) rfl (aL f1 rfl)) h3)) p4))) ?_;exact aS (dM (d9 (gR (aj rfl) (aj rfl) (oW (R4.gM (r:=.a 2) rfl (aL (aL h2 rfl) rfl)) (HC hx))) (gG (R4.gM (r:=.b 0 x) rfl ab) rfl) (ai (oR (ai (aj rfl) (ai (aj rfl) aq)) p5) aq) (xG (yW (R5.gM (r:=.b 0 x) rfl ab)) (DU (eqT (R5.gM (r:=.z k2.t) rfl (aL (aL f2 rfl) rfl)) h5)) p6)))
end
noncomputable def acC:Ro→Bool
 |.d n _=>n==5
 |r=>jc [0,1,2,3,4,5,14,16,17,18,19] true r
noncomputable abbrev gA:Ro→Bool:=jc [1,2,14,16,17,19] true
theorem Z2(h:gA r=true):acC r=true:=by
 cases r<;>first|(cases h;done)|exact DT (l:=[1,2,14,16,17,19]) (l':=[0,1,2,3,4,5,14,16,17,18,19]) (b:=true) (by decide) h
def My(c:Cm):Prop:=∀r,acC r=true→c r=none
structure Q4(Y:Gy)(lX:Nat)(X:List AV)(l6:Nat)(vl:Str→Nat)(ep:Nat)(c:Cm):Prop where
 h16:c (.a 16)=some (lX,.list X)
 hD:c (.a 1)=some (Y.l1,.dict (bW Y.L Y.V) 0)
 c0:c (.a 0)=none
 c18:c (.a 18)=none
 h2:c (.a 2)=some (l6,.dict (yv vl Y.V) ep)
section
variable{Y:Gy}{σ:Dz}{c:Cm}{H:Hp}{l6 lX:Nat}{u4 u5 u6 u7 u8:Option AV}{cD:Hp→Prop}{X:List AV}{vl:Str→Nat}{ep:Nat}{x:Str}{M:List Vt}
theorem Q4.chg(q:Q4 Y lX X l6 vl ep c)(g:eG isP c c'):Q4 Y lX X l6 vl ep c':=⟨g.k q.h16 rfl rfl,g.k q.hD rfl rfl,g.k q.c0 rfl rfl,g.k q.c18 rfl rfl,g.k q.h2 rfl rfl⟩
noncomputable abbrev gB4:SL:=gI.tl.tl.tl.tl.tl.tl.tl.hd.b1
theorem acD(R:Y.rep σ c H)(h:JT k c)(e:Cf (Y.n+4) .fW [.loc k.o,.loc k.p,.loc Y.l1,.loc Y.l3,.loc l6] H .none H'):fS (Y.n+4) gB4 (Y.lm (some (.loc k.o)) (some (.loc k.p)) (some (.loc l6)) u7 u8) H .next (Y.lm (some (.loc k.o)) (some (.loc k.p)) (some (.loc l6)) u7 u8) H':=
 aS (dM (qd (aj rfl) (oq (R.gM rfl h.o)) (R.gM rfl h.d) (fun _=>rfl) (ai (aj rfl) (ai (aj rfl) (ai (aj rfl) (ai (aj rfl) aq)))) e))
theorem aek(R:Y.rep σ c H)(bZ:cD H){Γ:Prop}:∀{u4 u5:Option AV},sQ M c→(∀k∈M,k.W.length≠1)→
  (∀CH JU,Tn (fS (Y.n+4) gB4) (.many [4,5]) cD (eZ M) (Y.lm u4 u5 (some (.loc l6)) u7 u8) H none (Y.lm CH JU (some (.loc l6)) u7 u8) H→Γ)→Γ:=by
 induction M with
 |nil=>exact fun _ _ κ=>κ _ _ .nil
 |cons k M ih=>
  intro u4 u5 f h κ;haveI ho:=f k cI;haveI ne:Rc 3 H (.int ((aW k.W).length:Int)) (.int 1) false:=by
   haveI q:=gT (k:=3) (H:=H) (i:=((aW k.W).length:Int)) (j:=1)
   rwa [bP fun q=>h k cI (by exact ez (bR (as:=k.W) (f:=AV.str)) (Int.ofNat.inj q))]at q
  exact ih (u4:=some (.loc k.o)) (u5:=some (.loc k.p)) f.tail (fun k' sI=>h k' (cZ _ sI)) fun a b e=>
   κ a b (dm (xg (R.gM rfl ho.t) rfl) (acD R ho (iB rfl rfl (aS (bF (bA (bI (ai (aj rfl) aq) (rC (pS (R.gM rfl ho.p)))) aT (gh ne)) bD)))) bZ e)
theorem ael{Rr:List Vt}(bZ:∀{c H},Y.rep σ c H→Q4 Y lX X l6 vl ep c→cD H)(hM:∀k∈M,k.W.length≠1)(sz:Sz Y.V σ)(sR:Rr.length<400){Γ:Prop}{S:List Vt}:∀{Sv:List Vt}{c:Cm}{H:Hp}{u4 u5:Option AV},Y.rep σ c H→Q4 Y lX X l6 vl ep c→sQ (S++M) c→sQ Sv c→Sv.map Vt.core=S.map Vt.core→(∀k∈S,k.W=[x])→(S≠[]→x∈Y.V)→c (.a 14)=some (Y.l3,.list (eZ (S++M)))→(S≠[]→c (.b 0 x)=some (vl x,.list (eZ (Sv++Rr))))→(S++M).length<400→
  (∀CH JU H' c',Tn (fS (Y.n+4) gB4) (.many [4,5]) cD (eZ (S++M)) (Y.lm u4 u5 (some (.loc l6)) u7 u8) H none (Y.lm CH JU (some (.loc l6)) u7 u8) H'→Y.rep σ c' H'→eG isP c c'→c' (.a 14)=some (Y.l3,.list (eZ M))→(S≠[]→c' (.b 0 x)=some (vl x,.list (eZ Rr)))→(∀y,y≠x∨S=[]→c' (.b 0 y)=c (.b 0 y))→Γ)→Γ:=by
 induction S with
 |nil=>
  intro Sv c H u4 u5 R q4 f fv m hS hx yZ hb sS κ;exact aek (l6:=l6) (u4:=u4) (u5:=u5) (u7:=u7) (u8:=u8) R (bZ R q4) f hM fun a b e=>κ a b H c e R .refl yZ (fun q=>absurd rfl q) fun y _=>rfl
 |cons k S ih=>
  intro Sv' c H u4 u5 R q4 f fv m hS hx yZ hb sS κ;cases Sv' with
  |nil=>cases m
  |cons k2 Sv=>
   haveI h:=f k (dD _ cI);haveI SH:=hx (fun h_=>no3 h_);have m1:k2.core=k.core:=(GJ m).1;have m2:Sv.map Vt.core=S.map Vt.core:=(GJ m).2;haveI f2:=(fv k2 cI).t;haveI eo:k2.core.o=k.core.o:=aR Vt.o m1;haveI ep:k2.core.p=k.core.p:=aR Vt.p m1;rw[show k2.o=k.o from eo,show k2.p=k.p from ep]at f2;have lv:Sv.length=S.length:=by rw[←bR (f:=Vt.core),m2,bR]
   have V4:(S++M).length<400:=Nat.lt_of_succ_lt sS;refine aej (n:=Y.n+1) (K1:=S++M) (K2:=Sv++Rr) (k1:=k) (k2:=k2) R h.o (hS k cI▸h.p) q4.hD q4.c0 q4.c18 SH sz yZ q4.h2 (hb (fun h_=>no3 h_)) h.t f2 (Nat.lt_trans V4 (by decide)) (by
    (refine aa bU (aa lv ?_))
    exact Nat.lt_trans (Nat.add_lt_add (Nat.lt_of_le_of_lt (by exact aa bU (Nat.le_add_right _ _)) V4) sR) (by decide)) fun H1 c1 e1 R1 g1 Wd ab ao=>?_
   refine ih (Sv:=Sv) (u4:=some (.loc k.o)) (u5:=some (.loc k.p)) R1 (q4.chg g1) (sQ.chg (f.tail:sQ (S++M) c) g1) (fv.tail.chg g1) m2 (fun k' sI=>hS k' (cZ _ sI)) (fun _=>SH) Wd (fun _=>ab) V4 fun CH JU H' c' q1 q2 q3 q4' q5 q6=>?_;refine κ CH JU H' c' (dm (xg (R.gM rfl h.t) rfl) (acD R h e1) (bZ R1 (q4.chg g1)) q1) q2 (g1.trans q3) q4' (fun _=>?_) fun y hy=>(q6 y (.inl (hy.resolve_right (fun h_=>no3 h_)))).trans (ao y (hy.resolve_right (fun h_=>no3 h_)));cases S with
   |nil=>
    cases Sv with
    |nil=>exact(q6 x (.inr rfl)).trans ab
    |cons=>cases lv
   |cons=>exact q5 (fun h_=>no3 h_)
theorem pD(h:y≠x):(σ.reset x).bS y=σ.bS y∧(σ.reset x).eN y=σ.eN y∧(σ.reset x).fT y=σ.fT y:=⟨aP h,aP h,aP h⟩
noncomputable abbrev gB5:SL:=gI.tl.tl.tl.tl.tl.tl.tl.tl.hd.b1
structure DR0(D:Str→List Int)(σ:Dz)(y:Str):Prop where
 p:(σ.bS y++σ.eN y).Perm (D y)
 l:(D y).length<900
 n:D y≠[]
structure DR1(D:Str→List Int)(σ:Dz)(y:Str):Prop where
 v:(σ.bS y).Perm (D y)
 h:σ.eN y=[]
 s:σ.fT y=[]
theorem DR0.ne(h:DR0 D σ y)(q:y≠x):DR0 D (σ.reset x) y:=⟨by(refine aa ((pD q).1) (aa ((pD q).2.1) ?_));exact h.p,h.l,h.n⟩
theorem DR1.ne(h:DR1 D σ y)(q:y≠x):DR1 D (σ.reset x) y:=⟨by refine aa ((pD q).1) ?_;exact h.v,(pD q).2.1.trans h.h,(pD q).2.2.trans h.s⟩
theorem ga5(bZ:∀{σ H},Y.rep σ c H→cD H){Γ:Prop}:∀{σ:Dz}{H:Hp}{u8:Option AV},W.Nodup→Y.rep σ c H→(∀y∈W,y∈Y.V)→(∀y∈W,DR0 D σ y)→(∀y∈Y.V,y∉W→DR1 D σ y)→
  (∀uv H' ck,Tn (fS (Y.n+4) gB5) (.one 8) cD (iO Y.L W) (Y.lm u4 u5 u6 u7 u8) H none (Y.lm u4 u5 u6 u7 uv) H'→Y.rep ck c H'→(∀y∈Y.V,DR1 D ck y)→Γ)→Γ:=by
 induction W with
 |nil=>exact fun{σ H u8} _ R _ _ h κ=>κ u8 H σ .nil R fun y hy=>h y hy (fun h_=>nx h_)
 |cons x W ih=>
  intro σ H u8 nd R hV h0 h1 κ;haveI uS:=dO.mp nd;haveI hx:=hV x cI;haveI z:=h0 x cI;haveI ev:(σ.reset x).bS x=σ.bS x++σ.eN x:=aU;refine Vm (n:=Y.n+3) R hx (by exact aa z.p.length_eq (mq (Nat.lt_trans z.l (by decide)))) fun H1 e1 R1=>?_;haveI tr:=Be (mV R1 hx);rw[mQ,bP (fun q=>z.n (F7.mp (by rw[ev]at q;exact q▸z.p)))]at tr;haveI ne:∀y∈W,y≠x:=fun y hy q=>uS.1 (q▸hy);exact ih (u8:=some (.loc (Y.L.d x))) uS.2 R1 (fun y hy=>hV y (cZ _ hy)) (fun y hy=>(h0 y (cZ _ hy)).ne (ne y hy)) (fun y hy hn=>by
   by_cases q:y=x
   ·exact aa q ⟨ev▸z.p,aU,aU⟩
   ·exact(h1 y hy fun w=>(bw.mp w).elim q hn).ne q) fun uv H' ck a b d=>
   κ uv H' ck (dm fM (aA (dM (qd (aj rfl) (JQ (mV R hx)) (mW R hx) (fun _=>rfl) aq e1)) (aS (bF (gu (fB rfl tr)) bD))) (bZ R1) a) b d
end
theorem eG.gA(h:eG (jc l b) c c')(s:∀n,n∈l→n∈[1,2,14,16,17,19]):eG qo.gA c c':=h.mono fun _ k=>DT s k
theorem EB(h:H[l]? =some (.jB d))(h':H'[l]? =some (.jB d))(k:H[d]? =some o)(k':H'[d]? =some o):gW H l H':=⟨h'.trans h.symm,fun e q=>by rw[h]at q;cases q;exact k'.trans k.symm⟩
structure pY(L:DL)(V:List Str)(lP dP lS dS lK lV:Nat)(Ks:List Vt)(c:Cm):Prop where
 p:c (.a 10)=some (lP,.inst .problem dP)
 pa:c (.a 11)=some (dP,.attrs [(.solver,.loc lS),(.constraints,.loc lK),(.eE,.loc lV)])
 k:c (.a 12)=some (lK,.list (eZ Ks))
 v:∃ep,c (.a 13)=some (lV,.dict (bW L V) ep)
 sv:SvC lS dS c
 kf:sQ Ks c
theorem pY.le{Ks:List Vt}(h:pY L V lP dP lS dS lK lV Ks c)(l:Le c c'):pY L V lP dP lS dS lK lV Ks c':=
 ⟨l _ _ h.p,l _ _ h.pa,l _ _ h.k,h.v.elim fun e q=>⟨e,l _ _ q⟩,⟨l _ _ h.sv.i,l _ _ h.sv.f⟩,fun k hk=>⟨l _ _ (h.kf k hk).t,l _ _ (h.kf k hk).o,l _ _ (h.kf k hk).p,l _ _ (h.kf k hk).d⟩⟩
structure yG(V:List Str)(S M:List Vt)(x:Str):Prop where
 ne:∀k∈S++M,k.W≠[]∧k.W.Nodup∧∀y∈k.W,y∈V
 one:∀k∈S,k.W=[x]
 more:∀k∈M,k.W.length≠1
 len:(S++M).length<100
theorem kY{K:List Vt}:(K.filter fun k=>decide (x∈k.W)).map Vt.core=(K.map Vt.core).filter fun k=>decide (x∈k.W):=by
 refine aa Ow ?_;rfl
theorem Qo{K K':List Vt}(h:K.map Vt.core=K'.map Vt.core):K.map Vt.W=K'.map Vt.W:=by
 haveI:=aR (jN Vt.W) h;rw[iM,iM]at this;exact this
theorem r7{P:List Str→Prop}{K K':List Vt}(h:K.map Vt.core=K'.map Vt.core)(a:∀k∈K',P k.W):∀k∈K,P k.W:=fun k hk=>by
 haveI:=dF (f:=Vt.W) hk;rw[Qo h]at this;exact(bX.mp this).elim fun k' h'=>h'.2▸a k' h'.1
theorem DV{K K':List Vt}(h:K.map Vt.core=K'.map Vt.core):K.length=K'.length:=by rw[←bR (f:=Vt.core),h,bR]
structure A7(Y:Gy)(l6:Nat)(vl:Str→Nat)(ep:Nat)(K1:List Vt)(vcs:Str→List Vt)(Ks:List Vt)(c:Cm):Prop where
 h1:c (.a 1)=some (Y.l1,.dict (bW Y.L Y.V) 0)
 yZ:c (.a 14)=some (Y.l3,.list (eZ K1))
 h2:c (.a 2)=some (l6,.dict (yv vl Y.V) ep)
 vb:Vb Y vl vcs c
 f:sQ K1 c
 m4:K1.map Vt.core=Ks.map Vt.core
 m7:∀y,(vcs y).map Vt.core=(Ks.map Vt.core).filter fun k=>decide (y∈k.W)
theorem VG(R:Rep (mix L V σ c) H)(h:c (.a 1)=some (l,.dict (bW L V) ep)):Wk H l (aW V):=by
 haveI:=vI (R.gM rfl h)
 rwa [show(bW L V).map (·.1)=aW V by simp[bW,aW]]at this
noncomputable abbrev acE(lP:Nat):LM:=[some (.loc lP),none,none,none,none,none,none,none,none]
section
variable{L:DL}{V:List Str}{D:Str→List Int}{σ:Dz}{c c0:Cm}{H:Hp}{n lP dP lS dS lK lV:Nat}{S M Ks:List Vt}{x:Str}
theorem Z3(R:Rep (mix L V σ c0) H)(pr:pY L V lP dP lS dS lK lV Ks c0)(fr:My c0)(nd:V.Nodup)(nV:V.length<60)(hW:∀k∈Ks,k.W≠[]∧k.W.Nodup∧∀y∈k.W,y∈V)(len:Ks.length<100){Γ:Prop}
  (κ:∀l1 l2 l3 l6 u4 u5 u7 vl ep K1 vcs H7 c7,(∀{fl aI H'},fS (n+4) gI.tl.tl.tl.tl.tl.tl.tl (lmH lP l1 l2 l3 u4 u5 (some (.loc l6)) u7 none) H7 fl aI H'→fS (n+4) gI (acE lP) H fl aI H')→Rep (mix L V σ c7) H7→eG gA c0 c7→A7 ⟨L,V,n,lP,l1,l2,l3⟩ l6 vl ep K1 vcs Ks c7→Γ):Γ:=by
 haveI z0:(0:Nat)<bQ:=by decide
 refine pr.v.elim fun epV hV=>R.fY (.a 1) rfl (.dict (bW L V) 0) (by show(jN _ _).length<bQ;rw[bR];exact Nat.lt_trans nV (by decide)) fun H1 l1 p1 R1 g1=>?_;refine R1.tmp (.list ((bW L V).map (·.1))) (mC (by rw[bR];unfold bW;rw[bR];exact Nat.lt_trans nV (by decide))) fun H2 l2 p2 R2 g2 _ _=>?_;refine R2.fY (.a 14) rfl (.list (eZ [])) z0 fun H3 l3 p3 R3 g3=>?_;haveI G3:eG gA c0 ((c0.up (.a 1) (l1,.dict (bW L V) 0)).up (.a 14) (l3,.list (eZ []))):=(bk rfl rfl).trans (bk rfl rfl);have Tj:=pr.le ((Le.up (fun _ _ e=>e) (fr _ rfl)).up (fr _ rfl):Le c0 ((c0.up (.a 1) (l1,.dict (bW L V) 0)).up (.a 14) (l3,.list (eZ []))));have k12:=R3.gM rfl Tj.k;refine ga1 (Y:=⟨L,V,n,lP,l1,l2,l3⟩) (u6:=none) (u7:=none) (u8:=none) (cD:=gW H3 lK) (fun R' h=>bq k12 (R'.gM rfl h) rfl) (Ks:=Ks) (K1:=[]) (u4:=none) (u5:=none) R3 Tj.k Tj.kf (fun k hk=>(hW k hk).1) up_eq (Nat.lt_of_le_of_lt (Nat.le_of_eq (Nat.zero_add _)) (Nat.lt_trans len (by decide))) fun u4 u5 H4 c4 K1 e4 R4 g4 yZ f4 m4=>?_;refine R4.fY (.a 2) rfl (.dict (yv (fun _=>0) []) 0) z0 fun H5 l6 p5 R5 g5=>?_;have h1:(c4.up (.a 2) (l6,.dict (yv (fun _=>0) []) 0)) (.a 1)=some (l1,.dict (bW L V) 0):=aL (g4.k (aL up_eq rfl) rfl rfl) rfl;haveI d5:=R5.gM rfl h1;refine ga2 (Y:=⟨L,V,n,lP,l1,l2,l3⟩) (u4:=u4) (u5:=u5) (u8:=none) (cD:=gW H5 l1) (fun R' h=>bq d5 (R'.gM rfl h) rfl) (W:=V) (W1:=[]) (u7:=none) R5 h1 nd up_eq (fun x hx=>(nx hx)) (Nat.lt_of_le_of_lt (Nat.le_of_eq (Nat.zero_add _)) (Nat.lt_trans nV (by decide))) fun u7 H6 c6 vl ep e6 R6 g6 h2 hb=>?_;have G6:eG gA c4 c6:=eG.trans (bk rfl rfl) (g6.gA (by decide));have NK:c6 (.a 14)=some (l3,.list (eZ K1)):=g6.k (aL yZ rfl) rfl rfl;haveI k14:=R6.gM rfl NK;refine ga3 (Y:=⟨L,V,n,lP,l1,l2,l3⟩) (u8:=none) (cD:=gW H6 l3) (fun R' h=>bq k14 (R'.gM rfl h) rfl) (Ks:=K1) (vcs:=fun _=>[]) (u4:=u4) (u5:=u5) (u7:=u7) R6 NK (f4.chg G6) (r7 (P:=fun W=>W.Nodup∧∀y∈W,y∈V) m4 fun k hk=>(hW k hk).2) h2 ⟨hb,fun x hx k hk=>(nx hk)⟩ (fun x=>Nat.lt_of_le_of_lt (Nat.le_of_eq ((Nat.zero_add _).trans (DV m4))) (Nat.lt_trans len (by decide))) fun v4 v5 v7 H7 c7 vcs e7 R7 g7 vb m7=>?_;exact κ l1 l2 l3 l6 v4 v5 v7 vl ep K1 vcs H7 c7 (fun z=>aA (cC (d9 (fQ (aj rfl) (oq (R.gM rfl pr.p)) (R.gM rfl pr.pa) rfl) (xd (R.gM rfl hV) rfl) aq (Qi (R.gM rfl hV) p1)))
  (aA (cC (bI (ai (aj rfl) aq) (tT (abo (R1.gM (r:=.a 1) rfl up_eq) p2))))
  (aA (cC (b9 aq p3))
  (aA (gS (fQ (aj rfl) (oq (R3.gM rfl Tj.p)) (R3.gM rfl Tj.pa) rfl) (bL k12) e4 bD)
  (aA (cC (nC p5))
  (aA (gS (aj rfl) (VG R5 h1) e6 bD)
  (aA (gS (aj rfl) (bL k14) e7 bD) z)))))))
  R7 (((G3.trans (g4.gA (by decide))).trans G6).trans (g7.gA (by decide)))
  ⟨g7.k (g6.k h1 rfl rfl) rfl rfl,g7.k NK rfl rfl,g7.k h2 rfl rfl,vb,(f4.chg G6).chg g7,m4,fun y=>(m7 y).trans (by(refine aa kY (aa m4 ?_));rfl)⟩
theorem Iw{x:Str}{vs:List Vt}(one:∀k∈S,k.W=[x])(m:vs.map Vt.core=((S++M).map Vt.core).filter fun k=>decide (x∈k.W)){Γ:Prop}(κ:∀Sv Rr,vs=Sv++Rr→Sv.map Vt.core=S.map Vt.core→Rr.map Vt.core=(M.map Vt.core).filter (fun k=>decide (x∈k.W))→Γ):Γ:=by
 rw[ic,Oo,←kY,List.filter_eq_self.mpr (fun k hk=>by rw[one k hk];exact bN cI)]at m;exact(Oe.mp m).elim fun Sv h=>h.elim fun Rr h=>κ Sv Rr h.1 h.2.1 h.2.2
theorem aem{vcs:Str→List Vt}(one:∀k∈S,k.W=[x])(m7:∀y,(vcs y).map Vt.core=((S++M).map Vt.core).filter fun k=>decide (y∈k.W))(mR:Rr.map Vt.core=(M.map Vt.core).filter fun k=>decide (x∈k.W))(y:Str):(fset vcs x Rr y).map Vt.W=(M.filter fun k=>decide (y∈k.W)).map Vt.W:=by
 refine Qo ?_;refine aa kY ?_
 by_cases q:y=x
 ·(refine aa q (aa aU ?_));exact mR
 ·rw[aP q,m7,ic,Oo,←kY (K:=S),C0.mpr (fun k hk=>by rw[one k hk];exact fun z=>q (bO.mp (cP z)))];rfl
theorem abx(nd:V.Nodup)(nV:V.length<60)(hD:∀y∈V,(D y).length≤2∧(D y).Nodup∧D y≠[])(ks:yG V S M x)(vcW:∀y,(vc y).map Vt.W=(M.filter fun k=>decide (y∈k.W)).map Vt.W):Kn ⟨L,V,l1,l6,vl,vc⟩ D (M.map Vt.W):=
 ⟨nd,nV,fun y hy=>⟨(hD y hy).1,(hD y hy).2.1⟩,fun y hy k hk=>(bX.mp (vcW y▸dF hk:k.W∈(M.filter fun k=>decide (y∈k.W)).map Vt.W)).elim fun k' h=>h.2▸dF (dG.mp h.1).1,
  fun y hy W hW hm=>(bX.mp hW).elim fun k' h=>by
   show W∈(vc y).map Vt.W;rw[vcW,←h.2];exact dF (dG.mpr ⟨h.1,bN (h.2▸hm)⟩),
  fun W hW=>(bX.mp hW).elim fun k' h=>h.2▸(ks.ne k' (cU _ h.1)).2,
  fun W hW=>(bX.mp hW).elim fun k' h=>by
   haveI h1:=(ks.ne k' (cU _ h.1)).2;exact h.2▸Nat.lt_of_le_of_lt (h1.1.length_le_of_subset h1.2) (Nat.lt_trans nV (by decide))⟩
theorem aby(hD:∀y∈V,(D y).length≤2∧(D y).Nodup∧D y≠[])(hP:∀y∈V,(σ.bS y++σ.eN y).Perm (D y)∧(σ.fT y).length<900):Sz V σ:=fun y hy=>by
 haveI h:=(hP y hy).1.length_eq;rw[bU]at h;exact⟨h▸Nat.lt_of_le_of_lt (hD y hy).1 (by decide),(hP y hy).2⟩
theorem RO(R:Rep (mix L V σ c0) H)(pr:pY L V lP dP lS dS lK lV (S++M) c0)(fr:My c0)(nd:V.Nodup)(nV:V.length<60)(hD:∀y∈V,(D y).length≤2∧(D y).Nodup∧D y≠[])(hP:∀y∈V,(σ.bS y++σ.eN y).Perm (D y)∧(σ.fT y).length<900)(ks:yG V S M x){Γ:Prop}(κ:∀P lT cv H' c' ck,Cf (n+5) .ig [.loc lP] H (.loc lT) H'→P.L=L→P.V=V→Rep (mix L V ck c') H'→Le c0 c'→c' (.z lT)=some (lT,.tuple [.loc P.lD,cv,.loc P.lC])→IP P c'→Kn P D (M.map Vt.W)→vo c'→Good V D (M.map Vt.W) [] ck→NE V [] ck→Γ):Γ:=by
 refine Z3 (n:=n) R pr fr nd nV ks.ne ks.len fun l1 l2 l3 l6 v4 v5 v7 vl ep K1 vcs H7 c7 pre R7 G7 A=>?_;refine(Oe.mp (A.m4.trans ic)).elim fun S1 h=>h.elim fun M1 h=>?_;refine vS (h) fun MC mS mM=>?_;subst MC;haveI h1:=A.h1;haveI yZ:=A.yZ;have lK:(S1++M1).length<100:=DV A.m4▸ks.len;refine R7.fY (.a 16) rfl (.list (eZ (S1++M1))) (mC (by unfold eZ;rw[bR];exact Nat.lt_trans lK (by decide))) fun H8 vO p8 R8 g8=>?_;refine Iw ks.one (A.m7 x) fun Sv Rr eSR mSv mRr=>?_;have acF:∀k∈S1,k.W=[x]:=r7 (P:=fun W=>W=[x]) mS ks.one;have S1V:S1≠[]→x∈V:=fun q=>by
  cases S1 with
  |nil=>exact absurd rfl q
  |cons k S1=>
   haveI:=r7 (P:=fun W=> ∀y∈W,y∈V) A.m4 (fun k hk=>(ks.ne k hk).2.2) k (dD _ cI);rw[acF k cI]at this;exact this x cI
 haveI lSR:Rr.length≤(S++M).length:=by
  haveI e:=C2 (fun k=>decide (x∈k.W)) ((S++M).map Vt.core);rw[←A.m7 x,bR,bR,eSR,bU]at e;exact Nat.le_trans (Nat.le_add_left _ _) e
 haveI G8:eG gA c7 (c7.up (.a 16) (vO,.list (eZ (S1++M1)))):=bk rfl rfl;haveI fSv:sQ Sv c7:=by
  cases q:S1 with
  |nil=>rw[q]at mS;rw[←mS]at mSv;exact aa (qg.mp mSv) (fun k hk=>(nx hk))
  |cons k S=>exact fun k hk=>A.vb.f x (S1V (by refine aa q ?_;nofun)) k (by exact aa eSR (dD _ hk))
 have d8:=R8.gM (r:=.a 16) rfl up_eq;refine ael (Y:=⟨L,V,n,lP,l1,l2,l3⟩) (u7:=v7) (u8:=none) (cD:=gW H8 vO) (M:=M1) (Rr:=Rr) (fun R' q=>bq d8 (R'.gM rfl q.h16) rfl) (r7 (P:=fun W=>W.length≠1) mM ks.more) (aby hD hP) (Nat.lt_of_le_of_lt lSR (Nat.lt_trans ks.len (by decide))) (S:=S1) (Sv:=Sv) (u4:=v4) (u5:=v5) R8 ⟨up_eq,aL h1 rfl,aL (G7.k (fr _ rfl) rfl rfl) rfl,aL (G7.k (fr _ rfl) rfl rfl) rfl,aL A.h2 rfl⟩ (A.f.chg G8) (fSv.chg G8) (mSv.trans mS.symm) acF S1V (aL yZ rfl) (fun q=>aL (by exact ez eSR (A.vb.b x (S1V q))) rfl) (Nat.lt_trans lK (by decide)) fun w4 w5 H9 c9 e9 R9 g9 Wd bx bo=>?_;have Yp:c9 (.a 1)=some (l1,.dict (bW L V) 0):=g9.k (aL h1 rfl) rfl rfl;refine R9.fY (.a 17) rfl (.jB l1) trivial fun XC lv To JW EW=>?_;have NN:(c9.up (.a 17) (lv,.jB l1)) (.a 1)=_:=aL Yp rfl;have dv:=JW.gM (r:=.a 17) rfl up_eq;have dd:=JW.gM rfl NN;refine ga5 (Y:=⟨L,V,n,lP,l1,l2,l3⟩) (u4:=w4) (u5:=w5) (u6:=some (.loc l6)) (u7:=v7) (D:=D) (cD:=gW XC lv) (fun R'=>EB dv (R'.gM (r:=.a 17) rfl up_eq) dd (R'.gM rfl NN)) (W:=V) (u8:=none) nd JW (fun y hy=>hy) (fun y hy=>⟨(hP y hy).1,Nat.lt_of_le_of_lt (hD y hy).1 (by decide),(hD y hy).2.2⟩) (fun y hy q=>absurd hy q) fun w8 H11 ck e11 XD hσ=>?_;refine XD.jF (.tuple [.loc l1,.loc l3,.loc l6]) (by decide:3<bQ) fun H12 lT p12 R12 Xx z12=>?_;have G12:eG gA c9 ((c9.up (.a 17) (lv,.jB l1)).up (.z lT) (lT,.tuple [.loc l1,.loc l3,.loc l6])):=eG.trans (bk rfl rfl) (nX z12);have G:eG gA c0 ((c9.up (.a 17) (lv,.jB l1)).up (.z lT) (lT,.tuple [.loc l1,.loc l3,.loc l6])):=((G7.trans G8).trans (g9.gA (by decide))).trans G12;have itv:Wk XC lv (iO L V):=by
  have:=Vh dv dd
  rwa [show(bW L V).map (·.2)=iO L V by simp[bW,iO]]at this
 have bV:∀y∈V,c9 (.b 0 y)=some (vl y,.list (eZ (fset vcs x Rr y))):=fun y hy=>by
  have b8:(c7.up (.a 16) (vO,.list (eZ (S1++M1)))) (.b 0 y)=some (vl y,.list (eZ (vcs y))):=aL (A.vb.b y hy) rfl
  by_cases q:y=x
  ·(refine aa q (aa aU ?_))
   rw[q]at b8;cases w:S1 with
   |nil=>
    rw[w]at mS;rw[←mS]at mSv
    (refine aa (bo x (.inr w)) (aa b8 ?_);refine aa eSR (aa (qg.mp mSv) ?_));rfl
   |cons=>exact bx (by refine aa w ?_;nofun)
  ·(refine aa (aP q) (aa (bo y (.inl q)) ?_));exact b8
 refine κ ⟨L,V,l1,l6,vl,fset vcs x Rr⟩ lT (.loc l3) H12 _ ck (jY (lm:=acE lP) (aI:=lmH lP l1 l2 l3 w4 w5 (some (.loc l6)) v7 w8) rfl rfl (pre ?_)) rfl rfl R12 (G.le (fun _ _ e=>e) fun r h=>fr r (Z2 h)) up_eq ⟨⟨0,aL NN rfl⟩,⟨ep,aL (aL (g9.k (aL A.h2 rfl) rfl rfl) rfl) rfl⟩,fun y hy=>aL (aL (bV y hy) rfl) rfl,fun y hy k hk=>?_⟩ (abx nd nV hD ks (aem ks.one A.m7 mRr)) ⟨G.k (fr _ rfl) rfl rfl,G.k (fr _ rfl) rfl rfl,G.k (fr _ rfl) rfl rfl,G.k (fr _ rfl) rfl rfl,fun k=>G.k (fr _ rfl) rfl rfl⟩ (fun y hy=>by(refine aa ((hσ y hy).h) (aa ((hσ y hy).s) ?_));exact .nil (hσ y hy).v) (fun y hy e=>?_)
 ·refine aA (gS (Nt (aj rfl) (BI (R7.gM rfl A.yZ)) p8) (bL d8) e9 bD) ?_;refine aA (gS (d9 (aj rfl) (xd (R9.gM rfl Yp) rfl) aq (RA (R9.gM rfl Yp) To)) itv e11 bD) ?_;exact aJ (jE (oR (ai (aj rfl) (ai (aj rfl) (ai (aj rfl) aq))) p12)) rfl
 ·have key:sQ (fset vcs x Rr y) c7:=by
   by_cases q:y=x
   ·(refine aa q (aa aU ?_));exact fun k hk=>A.vb.f x (q▸hy) k (by exact aa eSR (cU _ hk))
   ·exact aa (aP q) (A.vb.f y hy)
  have a:=(((key k hk).chg G8).chg g9).chg G12;exact⟨a.t,a.o,a.p⟩
 ·have h:=(hσ y (jQ.mp hy).1).v;rw[e]at h;exact(hD y (jQ.mp hy).1).2.2 (F7.mp h)
end
theorem xM(R:Rep (mix L V σ (Xy c1 c)) H)(h:Le c0 c1):Rep (mix L V σ (Xy c0 c)) H:=R.leM fun r p _ e=>by
 cases r<;>first|exact e|exact h _ _ e
def jh(V:List Str)(D:Str→List Int)(σ:Dz):Prop:=∀y∈V,(σ.bS y++σ.eN y).Perm (D y)∧(σ.fT y).length<900
theorem xj(g:Good V D C F σ)(h:F.length<900):jh V D σ:=fun y hy=>⟨(g y hy).all.1,Nat.lt_of_le_of_lt (g y hy).all.2 h⟩
theorem rP(h:Le c0 c):eG (jc [] false) c0 (Xy c0 c):=⟨fun r n _=>(by cases r<;>first|rfl|cases n),fun l p e=>h _ _ e⟩
theorem Qp(q:V≠[]):(bW L V).isEmpty=false:=by
 unfold bW;cases w:V with
 |nil=>exact absurd w q
 |cons=>rfl
section
variable{L:DL}{V:List Str}{D:Str→List Int}{σ:Dz}{c c0:Cm}{H:Hp}{n lP dP lS dS lK lV:Nat}{S M:List Vt}{x:Str}
theorem WY(R:Rep (mix L V σ c0) H)(pr:pY L V lP dP lS dS lK lV (S++M) c0)(fr:My c0)(nd:V.Nodup)(nV:V.length<60)(hD:∀y∈V,(D y).length≤2∧(D y).Nodup∧D y≠[])(hP:jh V D σ)(ks:yG V S M x){Γ:Prop}
  (κ:∀P cv H' c' ck,En (n+5) (.kD [1,2,3] (.cQ (.var 0) (.fn [.ig]) .nil)) [some (.loc lP),none,none,none] H .next [some (.loc lP),some (.loc P.lD),some cv,some (.loc P.lC)] H'→L=P.L→V=P.V→Rep (mix P.L P.V ck c') H'→Le c0 c'→pY P.L P.V lP dP lS dS lK lV (S++M) c'→IP P c'→Kn P D (M.map Vt.W)→vo c'→Good P.V D (M.map Vt.W) [] ck→NE P.V [] ck→Γ):Γ:=by
 refine RO (n:=n) R pr fr nd nV hD hP ks fun P lT cv H1 c1 Xv e1 hz0 hz1 R1 IU hT pc K z g ne=>?_;have vP:=pr.le IU;have as:En (n+5) (.kD [1,2,3] (.cQ (.var 0) (.fn [.ig]) .nil)) [some (.loc lP),none,none,none] H .next [some (.loc lP),some (.loc P.lD),some cv,some (.loc P.lC)] H1:=WC (qd (aj rfl) (oq (R.gM rfl pr.p)) (R.gM rfl pr.pa) (fun _=>rfl) aq e1) (R1.gM rfl hT) rfl;rw[←hz0,←hz1]at R1 vP;rw[←hz1]at g ne;exact κ P cv H1 c1 Xv as hz0.symm hz1.symm R1 IU vP pc K z g ne
theorem LW(R:Rep (mix L V σ c0) H)(pr:pY L V lP dP lS dS lK lV (S++M) c0)(fr:My c0)(nd:V.Nodup)(h3:3^V.length<900)(nV:V.length<60)(hD:∀y∈V,(D y).length≤2∧(D y).Nodup∧D y≠[])(hP:jh V D σ)(ks:yG V S M x){Γ:Prop}(κ:∀(Z:Zs) (l:Nat) (H':Hp) (ck:Dz) (c':Cm),Cf (n+6) .dZ [.loc lP] H (.loc l) H'→Rep (mix L V ck c') H'→eG (jc [] false) c0 c'→jh V D ck→c' (.z l)=some (l,.list (Z.map fun p=>.loc p.1))→ZC Z c'→(V=[]→Z=[])→(V≠[]→Found (V:=V) (Z.map (·.2)) (ur V D (M.map Vt.W)))→Γ):Γ:=by
 refine WY (n:=n) R pr fr nd nV hD hP ks fun P cv H1 c1 Xv asg hL hV R1 IU vP pc K z g ne=>?_;rw[hV]at κ h3;rw[hL]at κ;refine pc.dom.elim fun JR hd=>?_;have tr:=Ja (R1.gM rfl hd)
 by_cases q:P.V=[]
 ·refine R1.jF (.list []) (by decide:0<bQ) fun H2 l p2 R2 g2 z2=>?_;have l2:=jG (p:=(l,AO.list [])) z2;rw[q]at tr;exact κ [] l H2 Xv _ (jY rfl rfl (aA asg (aJ (cV (gu (fB rfl tr)) (aJ (jE (b9 aq p2)) rfl)) rfl))) (rO R2 (IU.trans l2)) (rP (IU.trans l2)) (xj g (by decide)) up_eq (fun p hp=>(nx hp)) (fun _=>rfl) (fun w=>absurd q w)
 ·refine RL (n:=n+2) (cv:=cv) K h3 pc z vP.sv g ne R1 fun Z l H2 vp c2 e2 R2 IQ g2 hl zc fd len=>?_;rw[Qp q]at tr;exact κ Z l H2 vp _ (jY rfl rfl (aA asg (aA (bF (gu (fB rfl tr)) bD) (aJ (jE (qd (fQ (aj rfl) (oq (R1.gM rfl vP.p)) (R1.gM rfl vP.pa) rfl) (oq (R1.gM rfl vP.sv.i)) (R1.gM rfl vP.sv.f) (fun _=>rfl) (ai (aj rfl) (ai (aj rfl) (ai (aj rfl) aq))) e2)) rfl)))) (xM R2 IU) (rP (IU.trans IQ)) (xj g2 (by decide)) hl zc (fun w=>absurd w q) (fun _=>fd)
theorem LY(R:Rep (mix L V σ c0) H)(pr:pY L V lP dP lS dS lK lV (S++M) c0)(fr:My c0)(nd:V.Nodup)(nV:V.length<60)(hD:∀y∈V,(D y).length≤2∧(D y).Nodup∧D y≠[])(hP:jh V D σ)(ks:yG V S M x){Γ:Prop}
  (eS:∀(H':Hp)(ck:Dz)(c':Cm),Cf (n+6) .cT [.loc lP] H .none H'→Rep (mix L V ck c') H'→eG (jc [] false) c0 c'→jh V D ck→(V≠[]→∀s,¬ur V D (M.map Vt.W) s)→Γ)
  (fK:∀(H':Hp)(ck:Dz)(c':Cm) d A s,Cf (n+6) .cT [.loc lP] H (.loc d) H'→Rep (mix L V ck c') H'→eG (jc [] false) c0 c'→jh V D ck→V≠[]→c' (.z d)=some (d,.dict (dh A) 0)→(A.map (·.1)).Perm V→ur V D (M.map Vt.W) s→Ext A s→Γ):Γ:=by
 refine WY (n:=n) R pr fr nd nV hD hP ks fun P cv H1 c1 Xv asg hL hV R1 IU vP pc K z g ne=>?_;rw[hV]at eS fK;rw[hL]at eS fK;refine pc.dom.elim fun JR hd=>?_;have tr:=Ja (R1.gM rfl hd)
 by_cases q:P.V=[]
 ·rw[q]at tr;exact eS H1 Xv _ (jY rfl rfl (aA asg (aJ (cV (gu (fB rfl tr)) (aJ (jE aT) rfl)) rfl))) (rO R1 IU) (rP IU) (xj g (by decide)) fun w=>absurd q w
 ·rw[Qp q]at tr;have fin:∀{r H2},Cf (n+5) .bl [.loc lS,.loc P.lD,cv,.loc P.lC] H1 r H2→Cf (n+6) .cT [.loc lP] H r H2:=fun e2=>jY rfl rfl (aA asg (aA (bF (gu (fB rfl tr)) bD) (aJ (jE (qd (fQ (aj rfl) (oq (R1.gM rfl vP.p)) (R1.gM rfl vP.pa) rfl) (oq (R1.gM rfl vP.sv.i)) (R1.gM rfl vP.sv.f) (fun _=>rfl) (ai (aj rfl) (ai (aj rfl) (ai (aj rfl) aq))) e2)) rfl)));exact RM (n:=n+2) (cv:=cv) K pc z vP.sv g ne R1 (fun H2 vp c2 e2 R2 IQ g2 h2=>eS H2 vp _ (fin e2) (xM R2 IU) (rP (IU.trans IQ)) (xj g2 (by decide)) fun _=>h2)
   fun H2 vp c2 F2 d A s e2 R2 IQ g2 f2 h1 h2 h3 h4=>fK H2 vp _ d A s (fin e2) (xM R2 IU) (rP (IU.trans IQ)) (xj g2 (Nat.lt_of_le_of_lt f2 (Nat.lt_trans K.nV (by decide)))) q h1 h2 h3 h4
end
noncomputable def sa:Str:=av "a"
noncomputable def sb:Str:=av "b"
noncomputable def sc:Str:=av "c"
def Abc(x:Str):Prop:=x=sa∨x=sb∨x=sc
noncomputable def DL.add(L:DL)(x:Str)(y d h t:Nat):DL:=⟨fset L.d x y,fset L.a x d,fset L.h x h,fset L.s x t⟩
noncomputable def Dz.add(σ:Dz)(x:Str)(vs:List Int):Dz:=⟨fset σ.bS x vs,fset σ.eN x [],fset σ.fT x []⟩
section
variable{L:DL}{V:List Str}{D:Str→List Int}{σ:Dz}{c c0:Cm}{H:Hp}{n lP dP lS dS lK lV:Nat}{Ks:List Vt}{x:Str}{u v w:AV}
theorem LZ(hx:x∉V):bW (L.add x y d h t) (V++[x])=bW L V++[(.str x,.loc y)]:=by
 delta bW DL.add
 (refine aa ic (aa gC ?_);refine aa OB ?_)
 show _++[(AV.str x,AV.loc (fset L.d x y x))]=_;refine aa aU ?_
 congr 1
 exact wg fun z hz=>by
  show(AV.str z,AV.loc (fset L.d x y z))=_
  (refine aa (aP (fun(q:z=x)=>hx (q▸hz))) ?_;with_reducible rfl)
theorem RP:∀{V:List Str},x∉V→dput (.str x) (.loc y) (bW L V)=bW L V++[(.str x,.loc y)]:=by
 intro rv
 induction rv with
 |nil=>
  intro _;exact rfl
 |cons z V ih=>
  intro h;haveI ne:z≠x:=fun q=>h (q▸cI);show(if AV.str z=.str x then(.str z,.loc y)::bW L V else(.str z,.loc (L.d z))::dput (.str x) (.loc y) (bW L V))=_
  (refine aa (au (fun q=>ne (AV.str.inj q))) (aa (ih (fun q=>h (cZ _ q))) ?_));rfl
theorem JD:∀{V:List Str},(dJ (.str x) (bW L V)).isSome=decide (x∈V):=by
 intro rv
 induction rv with
 |nil=>
  exact rfl
 |cons z V ih=>
  show(if AV.str z=.str x then some (AV.loc (L.d z))else dJ (.str x) (bW L V)).isSome=_
  by_cases e:z=x
  ·(refine aa (aF (aR _ e)) (aa e ?_));simp
  ·(refine aa (au (fun q=>e (AV.str.inj q))) (aa ih ?_));simp[dg e]
theorem JE(hx:x∉V)(R:Rep (((((mix L V σ c).up (.v x) (y,.dom (aO vs) d)).up (.w x) (d,.attrs [(.hidden,.loc h),(.fh,.loc t)])).up (.h x) (h,.list [])).up (.s x) (t,.list [])) H):Rep (mix (L.add x y d h t) (V++[x]) (σ.add x vs) c) H:=R.le fun r p e=>by
 haveI mem:∀{z},z≠x→(z∈V++[x]↔z∈V):=fun h=>by rw[dc,bO,or_iff_left h]
 haveI my:x∈V++[x]:=cU _ (bO.mpr rfl);cases r with
 |v z=>
  (refine aa (aX (by simp)) (aa (aX (by simp)) ?_);refine aa (aX (by simp)) ?_)
  change (if z∈V++[x]then some (fset L.d x y z,AO.dom (aO (fset σ.bS x vs z)) (fset L.a x d z))else none)=_ at e
  by_cases q:z=x
  ·subst q;refine aa up_eq ?_;rw[aF my,aU,aU,aU]at e;exact e
  ·refine aa (aX (fun e=>by cases e;exact q rfl)) ?_;rw[aP q,aP q,aP q]at e;simp only[mem q]at e;exact e
 |w z=>
  (refine aa (aX (by simp)) (aa (aX (by simp)) ?_))
  change (if z∈V++[x]then some (fset L.a x d z,AO.attrs [(.hidden,.loc (fset L.h x h z)),(.fh,.loc (fset L.s x t z))])else none)=_ at e
  by_cases q:z=x
  ·subst q;refine aa up_eq ?_;rw[aF my,aU,aU,aU]at e;exact e
  ·(refine aa (aX (fun e=>by cases e;exact q rfl)) ?_;refine aa (aX (by simp)) ?_);rw[aP q,aP q,aP q]at e;simp only[mem q]at e;exact e
 |h z=>
  refine aa (aX (by simp)) ?_;change (if z∈V++[x]then some (fset L.h x h z,AO.list (aO (fset σ.eN x [] z)))else none)=_ at e
  by_cases q:z=x
  ·subst q;refine aa up_eq ?_;rw[aF my,aU,aU]at e;exact e
  ·(refine aa (aX (fun e=>by cases e;exact q rfl)) ?_;refine aa (aX (by simp)) (aa (aX (by simp)) ?_));rw[aP q,aP q]at e;simp only[mem q]at e;exact e
 |s z=>
  change (if z∈V++[x]then some (fset L.s x t z,AO.list (nats (fset σ.fT x [] z)))else none)=_ at e
  by_cases q:z=x
  ·subst q;refine aa up_eq ?_;rw[aF my,aU,aU]at e;exact e
  ·(refine aa (aX (fun e=>by cases e;exact q rfl)) ?_;refine aa (aX (by simp)) (aa (aX (by simp)) ?_);refine aa (aX (by simp)) ?_);rw[aP q,aP q]at e;simp only[mem q]at e;exact e
 |_=>exact e
theorem Z4:rz (av "Tried to insert duplicated variable %s")=true:=by decide+kernel
theorem WZ(h:rz s=true):Bo .mod (.str s) (.CB false) H (.CB true) H:=YX h
theorem Z5(h:Abc x):Cl n (.glob .repr) [.str x] H (.CB false) H:=Y4 h
theorem r9(R:Rep (mix L V σ c) H)(pr:pY L V lP dP lS dS lK lV Ks c)(ab:Abc x)(hx:x∈V):JL (n+1) .cz [.loc lP,.str x,v] H .value H:=by
 refine eY (pr.v) fun ep hV=>?_;haveI m:=in_dict (u:=.str x) (R.gM rfl hV) rfl;rw[JD,bN hx]at m;refine wC (aI:=[some (.loc lP),some (.str x),some v,some (.CB true)]) rfl rfl (aJ (cV (bA (aj rfl) (fQ (aj rfl) (oq (R.gM rfl pr.p)) (R.gM rfl pr.pa) rfl) (nR m)) (aA (cC (jX aT (bI (ai (aj rfl) aq) (Z5 ab)) (WZ Z4))) (aJ (rM (aj rfl)) rfl))) rfl)
theorem BP(R:Rep (mix L V σ c) H)(pr:pY L V lP dP lS dS lK lV Ks c)(hx:x∉V)(l0:lm[0]? =some (some (.loc lP)))(l1:lm[1]? =some (some (.str x))):Te n (.cmp .EE (.var 1) (.attr (.var 0) .eE)) lm H false H:=by
 refine eY (pr.v) fun ep hV=>?_;haveI m:=in_dict (u:=.str x) (R.gM rfl hV) rfl;rw[JD,bP hx]at m;exact bA (aj l1) (fQ (aj l0) (oq (R.gM rfl pr.p)) (R.gM rfl pr.pa) rfl) (nR m)
theorem W2(h:H[t]? =some (.tuple [.glob .list,.glob .tuple]))(s:Sr H u ys):Cl n (.glob .isinstance) [u,.loc t] H (.bool true) H:=by
 cases s with
 |l r e k=>subst e;exact Uw h k
 |t r e k=>subst e;exact Y9 h k
 |d r d e k=>subst e;exact Za h k
theorem L4(R:Rep (mix L V σ c) H)(pr:pY L V lP dP lS dS lK lV Ks c)(hx:x∉V){Γ:Prop}(κ:∀H',JL (n+1) .cz [.loc lP,.str x,.int i] H .type H'→Rep (mix L V σ c) H'→Γ):Γ:=by
 refine R.tmp (.tuple [.glob .list,.glob .tuple]) (by decide:2<bQ) fun H1 t p1 R1 g1 h1 _=>?_;exact κ H1 (wC (aI:=[some (.loc lP),some (.str x),some (.int i),_]) rfl rfl (aA (bF (BP R pr hx rfl rfl) bD) (aJ (bF (jP (bI (ai (aj rfl) (ai (oR (ai aT (ai aT aq)) p1) aq)) (Y8 h1)) eT) (aA (cC aT) (aJ (rM (aj rfl)) rfl))) rfl))) R1
theorem Sr.gr(s:Sr H u ys)(g:Gr H H'):Sr H' u ys:=by
 cases s with
 |l r e h=>exact .l r e (g h)
 |t r e h=>exact .t r e (g h)
 |d r d e h=>exact .d r d e (g h)
theorem z8(R:Rep (mix L V σ c) H)(pr:pY L V lP dP lS dS lK lV Ks c)(hx:x∉V)(s:Sr H u []){Γ:Prop}(κ:∀H',JL (n+3) .cz [.loc lP,.str x,u] H .value H'→Rep (mix L V σ c) H'→Γ):Γ:=by
 refine R.tmp (.tuple [.glob .list,.glob .tuple]) (by decide:2<bQ) fun H1 t p1 R1 g1 h1 _=>?_;refine xH (n:=n+1) (.v x) (.w x) (.h x) (.s x) R1 (s.gr g1) (by decide) nofun nofun nofun nofun nofun rfl rfl rfl rfl fun H2 y d h t2 e2 R2=>?_;haveI We:=JE (vs:=[]) hx R2;haveI hy:=mV We (cU V (bO.mpr rfl));rw[show(L.add x y d h t2).d x=y from aU,show(σ.add x []).bS x=[]from aU]at hy;haveI tr:=Be hy;refine κ H2 (wC (aI:=[some (.loc lP),some (.str x),some (.loc y),none]) rfl rfl (aA (bF (BP R pr hx rfl rfl) bD) (aA (cV (jP (bI (ai (aj rfl) (ai (oR (ai aT (ai aT aq)) p1) aq)) (W2 h1 (s.gr g1))) eT) (aS (cC (bI (ai (aj rfl) aq) e2)))) (aJ (cV (gu (fB rfl tr)) (aJ (rM aT) rfl)) rfl)))) (We.le fun r p e=>?_);haveI key:∀{z},z∈V→z≠x:=fun h q=>hx (q▸h);haveI sub:∀{z},z∈V→z∈V++[x]:=fun h=>dD _ h;cases r with
 |v z=>
  change (if z∈V then _ else _)=_ at e
  split at e
  ·rename_i q;refine ez e ?_;show(if z∈V++[x]then some (fset L.d x y z,AO.dom (aO (fset σ.bS x [] z)) (fset L.a x d z))else none)=_
   (refine aa (aF (sub q)) (aa (aP (key q)) ?_);refine aa (aP (key q)) (aa (aP (key q)) ?_);with_reducible rfl)
  ·cases e
 |w z=>
  change (if z∈V then _ else _)=_ at e
  split at e
  ·rename_i q;refine ez e ?_;show(if z∈V++[x]then some (fset L.a x d z,AO.attrs [(.hidden,.loc (fset L.h x h z)),(.fh,.loc (fset L.s x t2 z))])else none)=_
   (refine aa (aF (sub q)) (aa (aP (key q)) ?_);refine aa (aP (key q)) (aa (aP (key q)) ?_);with_reducible rfl)
  ·cases e
 |h z=>
  change (if z∈V then _ else _)=_ at e
  split at e
  ·rename_i q;refine ez e ?_;show(if z∈V++[x]then some (fset L.h x h z,AO.list (aO (fset σ.eN x [] z)))else none)=_
   (refine aa (aF (sub q)) (aa (aP (key q)) ?_);refine aa (aP (key q)) ?_;with_reducible rfl)
  ·cases e
 |s z=>
  change (if z∈V then _ else _)=_ at e
  split at e
  ·rename_i q;refine ez e ?_;show(if z∈V++[x]then some (fset L.s x t2 z,AO.list (nats (fset σ.fT x [] z)))else none)=_
   (refine aa (aF (sub q)) (aa (aP (key q)) ?_);refine aa (aP (key q)) ?_;with_reducible rfl)
  ·cases e
 |_=>exact e
theorem JF(R:Rep (mix L V σ c) H)(pr:pY L V lP dP lS dS lK lV Ks c)(hx:x∉V)(s:Sr H u (aO vs))(ne:vs≠[])(sm:vs.length<900)(sV:V.length<900){Γ:Prop}(κ:∀H' L' ep,Cf (n+3) .cz [.loc lP,.str x,u] H .none H'→Rep (mix L' (V++[x]) (σ.add x vs) (c.up (.a 13) (lV,.dict (bW L' (V++[x])) ep))) H'→Γ):Γ:=by
 refine R.tmp (.tuple [.glob .list,.glob .tuple]) (by decide:2<bQ) fun H1 t p1 R1 g1 h1 _=>?_;refine xH (n:=n+1) (.v x) (.w x) (.h x) (.s x) R1 (s.gr g1) (by rw[fR];exact Nat.lt_trans sm (by decide)) nofun nofun nofun nofun nofun rfl rfl rfl rfl fun H2 y d h t2 e2 R2=>?_;haveI We:=JE hx R2;haveI hy:=mV We (cU V (bO.mpr rfl));rw[show(L.add x y d h t2).d x=y from aU,show(σ.add x vs).bS x=vs from aU]at hy;haveI tr:=Be hy;rw[mQ,bP ne]at tr;refine eY (pr.v) fun ep hV=>?_;refine We.jM hV rfl (.dict (bW (L.add x y d h t2) (V++[x])) (if(dJ (.str x) (bW L V)).isSome then ep else ep+1)) (by show(jN _ _).length<bQ;rw[bR,bU];exact Nat.lt_trans (Nat.succ_lt_succ sV) (by decide)) fun H3 p3 R3=>?_
 refine κ H3 (L.add x y d h t2) _ (iB (aI:=[some (.loc lP),some (.str x),some (.loc y),none]) rfl rfl (aA (bF (BP R pr hx rfl rfl) bD) (aA (cV (jP (bI (ai (aj rfl) (ai (oR (ai aT (ai aT aq)) p1) aq)) (W2 h1 (s.gr g1))) eT) (aS (cC (bI (ai (aj rfl) aq) e2)))) (aA (bF (gu (fB rfl tr)) bD) (aS (zA (aj rfl) (fQ (aj rfl) (oq (We.gM rfl pr.p)) (We.gM rfl pr.pa) rfl) (aj rfl) (J8 (We.gM rfl hV) rfl ?_))))))) R3;rw[RP hx,←LZ hx];exact p3
end
noncomputable def Qq:Str:=av "added"
noncomputable def xm:Str:=av "value"
noncomputable def W3:Str:=av "type"
noncomputable def lF:List Str→List Str→List Str×Bool
 |V,[]=>(V,true)
 |V,w::r=>if w∈V then(V,false)else lF (V++[w]) r
section
variable{L:DL}{V:List Str}{D:Str→List Int}{σ:Dz}{c c0:Cm}{H H1:Hp}{n lP dP lS dS lK lV:Nat}{Ks:List Vt}{x:Str}{u v w:AV}
theorem vM{e:Ex}{s:Str}(R:Rep (mix L V σ c) H)(pr:pY L V lP dP lS dS lK lV Ks c)(h:JL (n+1) .cz [.loc lP,.str x,v] H e H1)(k:(e=.value∧s=xm)∨(e=.type∧s=W3)):Cf (n+2) .jk [.loc lP,.str x,v] H (.str s) H1:=by
 haveI b:fS (n+1) (Di.hd.b1) [some (.loc lP),some (.str x),some v] H (.exc e) [some (.loc lP),some (.str x),some v] H1:=aJ (jt (qm (aj rfl) (oq (R.gM rfl pr.p)) (R.gM rfl pr.pa) (fun _=>rfl) (ai (aj rfl) (ai (aj rfl) aq)) h)) rfl;rcases k with⟨rfl,rfl⟩|⟨rfl,rfl⟩
 ·exact jY rfl rfl (aJ (zB b (J6 (aJ (jE aT) rfl))) rfl)
 ·exact jY rfl rfl (aJ (zB b (aaR (by decide) (J6 (aJ (jE aT) rfl)))) rfl)
theorem RQ(R:Rep (mix L V σ c) H)(pr:pY L V lP dP lS dS lK lV Ks c)(h:Cf (n+1) .cz [.loc lP,.str x,v] H .none H1):Cf (n+2) .jk [.loc lP,.str x,v] H (.str Qq) H1:=
 jY rfl rfl (aJ (WG (aA (dM (qd (aj rfl) (oq (R.gM rfl pr.p)) (R.gM rfl pr.pa) (fun _=>rfl) (ai (aj rfl) (ai (aj rfl) aq)) h)) (aJ (jE aT) rfl)) rfl) rfl)
theorem z9{vs:List Int}(h:jh V D σ):jh (V++[x]) (fset D x vs) (σ.add x vs):=fun y hy=>by
 show(fset σ.bS x vs y++fset σ.eN x [] y).Perm _∧(fset σ.fT x [] y).length<900
 by_cases q:y=x
 ·subst q;rw[aU,aU,aU,aU,eW];exact⟨.refl _,by decide⟩
 ·(refine aa (aP q) (aa (aP q) ?_);refine aa (aP q) (aa (aP q) ?_))
  exact h y ((dc.mp hy).resolve_right fun z=>q (bO.mp z))
theorem pY.add{L':DL}{V':List Str}{c':Cm}{ep:Nat}(pr:pY L V lP dP lS dS lK lV Ks c)(h:c' (.a 13)=some (lV,.dict (bW L' V') ep))(k:∀r,r≠.a 13→c' r=c r):pY L' V' lP dP lS dS lK lV Ks c':=
 ⟨(k _ (by decide)).trans pr.p,(k _ (by decide)).trans pr.pa,(k _ (by decide)).trans pr.k,⟨ep,h⟩,⟨(k _ (by decide)).trans pr.sv.i,(k _ (by decide)).trans pr.sv.f⟩,fun q hq=>⟨(k (.z q.t) nofun).trans (pr.kf q hq).t,(k (.z q.o) nofun).trans (pr.kf q hq).o,(k (.z q.p) nofun).trans (pr.kf q hq).p,(k (.z q.d) nofun).trans (pr.kf q hq).d⟩⟩
noncomputable def lmV(lP lw:Nat)(u:AV)(u3:Option AV):LM:=[some (.loc lP),some (.loc lw),some u,u3]
inductive Wh(D D':Str→List Int)(V:List Str)(vs:List Int)(y:Str):Prop
 |o (h:y∈V) (e:D' y=D y)
 |n (h:y∉V) (e:D' y=vs)
theorem Iz{vs:List Int}{X:List AV}{lw:Nat}{cD:Hp→Prop}(ne:vs≠[])(sm:vs.length<900)(hu:∀{L V σ c H},Rep (mix L V σ c) H→c (.a 24)=c0 (.a 24)→Sr H u (aO vs))(bZ:∀{L V σ c H},Rep (mix L V σ c) H→c (.a 29)=some (lw,.list X)→cD H){Γ:Prop}{ws:List Str}:∀{L:DL}{V:List Str}{D:Str→List Int}{σ:Dz}{c:Cm}{H:Hp}{u3:Option AV},Rep (mix L V σ c) H→pY L V lP dP lS dS lK lV Ks c→jh V D σ→c (.a 24)=c0 (.a 24)→c (.a 29)=some (lw,.list X)→(∀w∈ws,Abc w)→V.length+ws.length<900→
  (∀u3' H' L' ck D' c',Tn (fS (n+3) jR.hd.b1) (.one 3) cD (aW ws) (lmV lP lw u u3) H (if(lF V ws).2 then none else some (.exc .value)) (lmV lP lw u u3') H'→Rep (mix L' (lF V ws).1 ck c') H'→pY L' (lF V ws).1 lP dP lS dS lK lV Ks c'→jh (lF V ws).1 D' ck→(∀r,r≠.a 13→c' r=c r)→(∀y∈(lF V ws).1,Wh D D' V vs y)→Γ)→Γ:=by
 induction ws with
 |nil=>exact fun{L V D σ c H u3} R pr dk h24 ML ab sz κ=>κ u3 H L σ D c .nil R pr dk (fun _ _=>rfl) fun y hy=>.o hy rfl
 |cons w ws ih=>
  intro L V D σ c H u3 R pr dk h24 ML ab sz κ;rw[show lF V (w::ws)=if w∈V then(V,false)else lF (V++[w]) ws from rfl]at κ
  by_cases q:w∈V
  ·rw[aF q]at κ;exact κ _ H L σ D c (Ql fM (aJ (jt (qm (aj rfl) (oq (R.gM rfl pr.p)) (R.gM rfl pr.pa) (fun _=>rfl) (ai (aj rfl) (ai (aj rfl) aq)) (r9 R pr (ab w cI) q))) rfl)) R pr dk (fun _ _=>rfl) fun y hy=>.o hy rfl
  ·rw[au q]at κ;refine JF (n:=n) R pr q (hu R h24) ne sm (Nat.lt_of_le_of_lt (Nat.le_add_right _ _) sz) fun H1 L1 ep e1 R1=>?_;exact ih (u3:=some (.str w)) R1 (pr.add up_eq fun r z=>aX z) (z9 dk) (aL h24 rfl) (aL ML rfl) (fun z hz=>ab z (cZ _ hz)) (Dg sz) fun u3' H' L' ck D' c' a b e f g k=>
    κ u3' H' L' ck D' c' (dm fM (aS (dM (qd (aj rfl) (oq (R.gM rfl pr.p)) (R.gM rfl pr.pa) (fun _=>rfl) (ai (aj rfl) (ai (aj rfl) aq)) e1))) (bZ R1 (aL ML rfl)) a) b e f (fun r z=>(g r z).trans (aX z)) fun z hz=>by
     cases k z hz with
     |o k1 k2=>
      by_cases m:z=w
      ·exact .n (m▸q) (by(refine aa k2 (aa m ?_);refine aa aU ?_;with_reducible rfl))
      ·exact .o ((dc.mp k1).resolve_right fun x=>m (bO.mp x)) (by(refine aa k2 (aa (aP m) ?_);with_reducible rfl))
     |n k1 k2=>exact .n (fun x=>k1 (dD _ x)) k2
theorem VH{o d p t':Nat}(R:Rep (mix L V σ c) H)(pr:pY L V lP dP lS dS lK lV Ks c)(ho:c (.z o)=some (o,.inst .dN d))(sK:Ks.length<900){Γ:Prop}(κ:∀H' t c',Cf (n+1) .dI [.loc lP,.loc o,.loc p] H .none H'→Rep (mix L V σ c') H'→c'=(c.up (.z t) (t,.tuple [.loc o,.loc p])).up (.a 12) (lK,.list (eZ Ks++[.loc t]))→c (.z t)=none→Γ):Γ:=by
 refine R.jF (.tuple [.loc o,.loc p]) (by decide:2<bQ) fun H1 t p1 R1 g1 z1=>?_;refine R1.jM (r:=.a 12) (aL pr.k rfl) rfl (.list (eZ Ks++[.loc t])) (mC (by delta eZ;rw[bU,bR];exact Nat.succ_lt_succ (Nat.lt_trans sK (by decide)))) fun H2 p2 R2=>?_;haveI hk:=R.gM rfl pr.k;exact κ H2 t _ (iB rfl rfl (aA (bF (gu (jP (bI (ai (aj rfl) (ai aT aq)) (Qj (isI (R.gM rfl ho) rfl))) eT)) bD) (aS (dM (d9 (fQ (aj rfl) (oq (R.gM rfl pr.p)) (R.gM rfl pr.pa) rfl) (gG hk rfl) (ai (oR (ai (aj rfl) (ai (aj rfl) aq)) p1) aq) (ir (yW (g1 hk)) p2)))))) R2 rfl z1
theorem VI{i:Int}:JL (n+1) .dI [.loc lP,.int i] H .value H:=
 wC (aI:=[some (.loc lP),some (.int i),some .none,_]) rfl rfl (aJ (cV (gu (jP (bI (ai (aj rfl) (ai aT aq)) Y5) eT)) (aJ (bF (jP (bI (ai (aj rfl) aq) HS) eT) (aA (cC aT) (aJ (rM (aj rfl)) rfl))) rfl)) rfl)
theorem L5(R:Rep (mix L V σ c) H)(pr:pY L V lP dP lS dS lK lV Ks c){Γ:Prop}(κ:∀H' c' ep,Cf (n+1) .qC [.loc lP] H .none H'→Rep (mix L [] σ c') H'→pY L [] lP dP lS dS lK lV [] c'→c'=(c.up (.a 12) (lK,.list [])).up (.a 13) (lV,.dict [] ep)→Γ):Γ:=by
 refine eY (pr.v) fun ep hV=>?_;refine R.jM pr.k rfl (.list []) (by decide:0<bQ) fun H1 p1 R1=>?_;haveI Wf:=(aX (c:=c) (r:=.a 12) (r':=.a 13) (p:=(lK,.list [])) (by decide)).trans hV;refine R1.jM Wf rfl (.dict [] (ep+1)) (by decide:0<bQ) fun H2 p2 R2=>?_;haveI k:∀r,r≠.a 12→r≠.a 13→((c.up (.a 12) (lK,.list [])).up (.a 13) (lV,.dict [] (ep+1))) r=c r:=fun r a b=>(aX b).trans (aX a);refine κ H2 _ _ (iB rfl rfl (aA (Ht (fQ (aj rfl) (oq (R.gM rfl pr.p)) (R.gM rfl pr.pa) rfl) (R.gM rfl pr.k) p1) (aS (dM (d9 (fQ (aj rfl) (oq (R1.gM rfl (aL pr.p rfl))) (R1.gM rfl (aL pr.pa rfl)) rfl) (xd (R1.gM rfl Wf) rfl) aq (Vf (R1.gM rfl Wf) p2)))))) (R2.le fun r q e=>?_) ⟨(k _ (by decide) (by decide)).trans pr.p,(k _ (by decide) (by decide)).trans pr.pa,aL up_eq rfl,⟨_,up_eq⟩,⟨(k _ (by decide) (by decide)).trans pr.sv.i,(k _ (by decide) (by decide)).trans pr.sv.f⟩,fun q hq=>(nx hq)⟩ rfl;cases r<;>first|exact e|(cases(show none=some q from e);done)
theorem IA(R:Rep (mix L V σ c) H)(pr:pY L V lP dP lS dS lK lV Ks c):Cf (n+1) .iC [.loc lP] H (.loc lS) H:=jY rfl rfl (aJ (jE (fQ (aj rfl) (oq (R.gM rfl pr.p)) (R.gM rfl pr.pa) rfl)) rfl)
end
section
variable{L:DL}{V:List Str}{σ:Dz}{c c0:Cm}{H H1 H2 H3:Hp}{n:Nat}{x:Str}{u v w:AV}
noncomputable def iR:Ro→Bool:=jc [6,7,10,11,12,13] false
theorem RT(R:Rep (mix L [] σ c) H){Γ:Prop}(κ:∀H' c' lP dP lS dS lK lV,Cl (n+2) (.glob (.cls .problem)) [] H (.loc lP) H'→Rep (mix L [] σ c') H'→pY L [] lP dP lS dS lK lV [] c'→eG iR c c'→Γ):Γ:=by
 haveI z0:(0:Nat)<bQ:=by decide
 refine R.fY (.a 11) rfl (.attrs []) trivial fun H1 dP p1 R1 g1=>?_;refine R1.fY (.a 10) rfl (.inst .problem dP) trivial fun H2 lP p2 R2 g2=>?_;refine R2.fY (.a 7) rfl (.attrs []) trivial fun H3 dS p3 R3 g3=>?_;refine R3.fY (.a 6) rfl (.inst .backtracking dS) trivial fun H4 lS p4 R4 g4=>?_;haveI a7:=(aX (r:=.a 6) (r':=.a 7) (p:=(lS,.inst .backtracking dS)) (by decide)).trans (up_eq (c:=(c.up (.a 11) (dP,.attrs [])).up (.a 10) (lP,.inst .problem dP)) (r:=.a 7) (p:=(dS,.attrs [])));refine R4.jM a7 rfl (.attrs [(.cy,.bool true)]) trivial fun H5 p5 R5=>?_;generalize hc5:(Cm.up _ (.a 7) (dS,AO.attrs [(mG.cy,AV.bool true)]))=c5 at R5;haveI b6:c5 (.a 6)=some (lS,.inst .backtracking dS):=by exact ez hc5 (aL up_eq rfl)
 haveI b7:c5 (.a 7)=some (dS,.attrs [(.cy,.bool true)]):=by exact ez hc5 up_eq
 haveI b10:c5 (.a 10)=some (lP,.inst .problem dP):=by exact ez hc5 (aL (aL (aL up_eq rfl) rfl) rfl)
 haveI b11:c5 (.a 11)=some (dP,.attrs []):=by exact ez hc5 (aL (aL (aL (aL up_eq rfl) rfl) rfl) rfl)
 haveI G5:eG iR c c5:=by exact ez hc5 (((((bk rfl rfl).trans (bk rfl rfl)).trans (bk rfl rfl)).trans (bk rfl rfl)).trans (bk rfl rfl))
 refine R5.jM b11 rfl (.attrs [(.solver,.loc lS)]) trivial fun H6 p6 R6=>?_;refine R6.fY (.a 12) rfl (.list []) z0 fun H7 lK p7 R7 g7=>?_;refine R7.jM (r:=.a 11) (aL up_eq rfl) rfl (.attrs [(.solver,.loc lS),(.constraints,.loc lK)]) trivial fun H8 p8 R8=>?_;refine R8.fY (.a 13) rfl (.dict [] 0) z0 fun H9 lV p9 R9 g9=>?_;refine R9.jM (r:=.a 11) (aL up_eq rfl) rfl (.attrs [(.solver,.loc lS),(.constraints,.loc lK),(.eE,.loc lV)]) trivial fun XC To JW=>?_;haveI bt:Cl (n+1) (.glob (.cls .backtracking)) [] H2 (.loc lS) H5:=Nx (f:=.wk) rfl p3 p4 (iB rfl rfl (aS (qE (aj rfl) (aj rfl) (rN (q:=.cy) (R4.gM (r:=.a 6) rfl up_eq) (R4.gM rfl a7) p5))));haveI lk:∀(r:Ro)(p:Nat×AO),r≠.a 11→r≠.a 12→r≠.a 13→c5 r=some p→(((((c5.up (.a 11) (dP,.attrs [(.solver,.loc lS)])).up (.a 12) (lK,.list [])).up (.a 11) (dP,.attrs [(.solver,.loc lS),(.constraints,.loc lK)])).up (.a 13) (lV,.dict [] 0)).up (.a 11) (dP,.attrs [(.solver,.loc lS),(.constraints,.loc lK),(.eE,.loc lV)])) r=some p:=fun r p h1 h2 h3 q=>by
  (refine aa (aX h1) (aa (aX h3) ?_);refine aa (aX h1) (aa (aX h2) ?_);refine aa (aX h1) ?_);exact q
 refine κ XC _ lP dP lS dS lK lV (Nx (f:=.uC) rfl p1 p2 (iB (aI:=[some (.loc lP),some .none]) rfl rfl ?_)) JW ⟨lk (.a 10) _ (by decide) (by decide) (by decide) b10,up_eq,aL (aL (aL up_eq rfl) rfl) rfl,⟨0,aL up_eq rfl⟩,⟨lk (.a 6) _ (by decide) (by decide) (by decide) b6,lk (.a 7) _ (by decide) (by decide) (by decide) b7⟩,fun q hq=>(nx hq)⟩ (G5.trans (((((bk rfl rfl).trans (bk rfl rfl)).trans (bk rfl rfl)).trans (bk rfl rfl)).trans (bk rfl rfl)));haveI i5:=R5.gM rfl b10;haveI i7:=R7.gM (r:=.a 10) rfl (aL (aL b10 rfl) rfl);haveI i9:=R9.gM (r:=.a 10) rfl (aL (aL (aL (aL b10 rfl) rfl) rfl) rfl);refine aA (qE (aaM (aj rfl) T8 (bI aq bt)) (aj rfl) (rN (q:=.solver) i5 (R5.gM rfl b11) p6)) ?_;refine aA (qE (b9 aq p7) (aj rfl) (rN (q:=.constraints) i7 (R7.gM (r:=.a 11) rfl (aL up_eq rfl)) p8)) ?_;exact aS (qE (nC p9) (aj rfl) (rN (q:=.eE) i9 (R9.gM (r:=.a 11) rfl (aL up_eq rfl)) To))
theorem aen:rz (av "%s is an abstract class")=true:=by decide+kernel
theorem aeo:rz (av "%s provides only a single solution")=true:=by decide+kernel
theorem acG:rz (av "%s doesn't provide iteration")=true:=by decide+kernel
theorem Bj{l d:Nat}{q:vN}{as:List AV}{s:Str}{lm:LM}{f:Fn}(h:H[l]? =some (.inst q d))(hq:q=.solver∨q=.recursive)(hf:rz s=true)(pl:qG f=false)(e0:Mq (oh f) (.loc l::as)=some lm)(l0:lm[0]? =some (some (.loc l)))(l4:4<lm.length)(b:(oh f).body=.cons (.asg 4 (.bin .mod (.lit (.str s)) (.clsName (.var 0)))) (.cons (.raise .jm (.var 4)) .nil)):JL (n+1) f (.loc l::as) H .jm H:=
 wC pl e0 (aI:=lm.set 4 (some (.CB true))) (by
  exact aa b (aA (cC (jX aT (aaN (aj l0) h hq) (WZ hf))) (aJ (rM (aj (mF l4))) rfl)))
theorem uN{l d:Nat}{q:vN}{fs:List (Attr×AV)}{k:Int}(R:Rep (mix L V σ c) H)(h:c (.a 32)=some (l,.inst q d))(hd:c (.a 33)=some (d,.attrs fs))(hk:(q=.solver∧(k=0∨k=1∨k=2))∨(q=.recursive∧k=2)){Γ:Prop}(κ:∀H',Cf (n+2) .gj [.loc l,.int k] H (.bool true) H'→Rep (mix L V σ c) H'→Γ):Γ:=by
 haveI hq:q=.solver∨q=.recursive:=hk.imp And.left And.left;refine R.tmp (.dict [] 0) (by decide:0<bQ) fun H1 t1 p1 R1 g1 _ _=>?_;refine R1.tmp (.list []) (by decide:0<bQ) fun H2 t2 p2 R2 g2 _ _=>?_;refine R2.tmp (.dict [] 0) (by decide:0<bQ) fun H3 t3 p3 R3 g3 _ _=>?_;haveI ho:=R.gM rfl h;have own:=R.gM rfl hd;haveI h3:=R3.gM rfl h;have args:CF (n+1) (.cons .jC (.cons (.list .nil) (.cons .jC .nil))) [some (.loc l),some (.int k)] H [.loc t1,.loc t2,.loc t3] H3:=ai (nC p1) (ai (b9 aq p2) (ai (nC p3) aq));have fin:∀{b},fS (n+1) b [some (.loc l),some (.int k)] H (.exc .jm) [some (.loc l),some (.int k)] H3→b=xR.hd.b1→Γ:=fun b e=>by
  subst e;exact κ H3 (jY rfl rfl (aJ (zB b (J6 (aJ (jE aT) rfl))) rfl)) R3
 rcases hk with⟨rfl,rfl|rfl|rfl⟩|⟨rfl,rfl⟩
 ·exact fin (aJ (cV (bA (aj rfl) aT (gh gT)) (aJ (jt (qm (aj rfl) (oq ho) own (fun _=>rfl) args (Bj (lm:=[some (.loc l),some (.loc t1),some (.loc t2),some (.loc t3),none]) (f:=.eH) h3 hq aen rfl rfl rfl (by show 4<5;decide) rfl))) rfl)) rfl) rfl
 ·exact fin (aJ (bF (bA (aj rfl) aT (gh gT)) (aJ (cV (bA (aj rfl) aT (gh gT)) (aJ (jt (qm (aj rfl) (oq ho) own (fun _=>rfl) args (Bj (lm:=[some (.loc l),some (.loc t1),some (.loc t2),some (.loc t3),none]) (f:=.d7) h3 hq aeo rfl rfl rfl (by show 4<5;decide) rfl))) rfl)) rfl)) rfl) rfl
 ·exact fin (aJ (bF (bA (aj rfl) aT (gh gT)) (aJ (bF (bA (aj rfl) aT (gh gT)) (aJ (jt (qm (aj rfl) (oq ho) own (fun _=>rfl) args (Bj (lm:=[some (.loc l),some (.loc t1),some (.loc t2),some (.loc t3),none]) (f:=.dj) h3 hq acG rfl rfl rfl (by show 4<5;decide) rfl))) rfl)) rfl)) rfl) rfl
 ·exact fin (aJ (bF (bA (aj rfl) aT (gh gT)) (aJ (bF (bA (aj rfl) aT (gh gT)) (aJ (jt (qm (aj rfl) (oq ho) own (fun _=>rfl) args (Bj (lm:=[some (.loc l),some (.loc t1),some (.loc t2),some (.loc t3),none]) (f:=.dj) h3 hq acG rfl rfl rfl (by show 4<5;decide) rfl))) rfl)) rfl)) rfl) rfl
end
abbrev Mz:=List (Nat×List Int)
def iP(Z:Mz)(H:Hp):Prop:=∀z∈Z,H[z.1]? =some (.list (aO z.2))
noncomputable def fC(Z:Mz):List AV:=Z.map fun z=>.loc z.1
structure Gw(H H':Hp):Prop where
 ap:∀{l:Nat}{o:AO},H[l]? =some o→H'[l]? =some o
theorem Gw.refl{H:Hp}:Gw H H:=⟨fun q=>q⟩
theorem Gw.trans{H H1 H2:Hp}(g:Gw H H1)(h:Gw H1 H2):Gw H H2:=⟨fun q=>h.ap (g.ap q)⟩
theorem iP.gr{Z:Mz}{H H':Hp}(h:iP Z H)(g:Gw H H'):iP Z H':=fun z hz=>g.ap (h z hz)
theorem TP(H:Hp)(o:AO)(s:small o){Γ:Prop}(κ:∀H' l,Pu o H (.loc l) H'→Gw H H'→H'[l]? =some o→H.length≤l→Γ):Γ:=
 κ _ _ (rK s) ⟨fun q=>(oF (fU.mp q).1).trans q⟩ (FQ ..) (Nat.le_refl _)
theorem Gw.len{H H':Hp}(g:Gw H H'):H.length≤H'.length:=by
 cases h:H.length with
 |zero=>exact Nat.zero_le _
 |succ n=>
  haveI:n<H.length:=by lia
  exact(fU.mp (g.ap (jy this))).1
theorem uX(H:Hp)(o:AO)(s:small o){Γ:Prop}(κ:∀H' l,Pu o H (.loc l) H'→Gw H H'→H'[l]? =some o→Γ):Γ:=
 κ _ _ (rK s) ⟨fun q=>(oF (fU.mp q).1).trans q⟩ (FQ ..)
theorem Rep.gr{c:Cm}{H H':Hp}(R:Rep c H)(g:Gw H H'):Rep c H':=⟨fun q=>g.ap (R.get q),R.inj,R.zf⟩
theorem uF{H H':Hp}{l:Nat}{xs:List AV}(h:H[l]? =some (.list xs))(g:Gw H H'):gW H l H':=bq h (g.ap h) rfl
section
variable{H:Hp}
theorem VJ{α:Type}[DecidableEq α]{xs ys:List α}(e:xs.length=ys.length):(kO xs.length).all (fun j=>decide (xs[j]? =ys[j]?))=decide (xs=ys):=by
 by_cases q:xs=ys
 ·subst q;exact aa (bN rfl) (iE.mpr fun j _=>bN rfl)
 ·refine aa (bP q) (Bool.eq_false_iff.mpr fun h=>q (List.ext_getElem? fun j=>?_))
  by_cases hj:j<xs.length
  ·exact cP (iE.mp h j (F6.mpr hj))
  ·(refine aa (zb (Nat.le_of_not_lt hj)) ?_;refine aa (zb (e▸Nat.le_of_not_lt hj)) ?_;with_reducible rfl)
theorem DW{α:Type}[DecidableEq α]{x y:α}:decide (x=y)=decide ((some x:Option α)=some y):=nj.mpr (by rw[OM])
theorem xN{n a b:Nat}{xs ys:List Int}(h:H[a]? =some (.list (aO xs)))(k:H[b]? =some (.list (aO ys))):Rc (n+1) H (.loc a) (.loc b) (decide (xs=ys)):=by
 by_cases e:xs.length=ys.length
 ·haveI q:=vz (k:=n) (f:=fun j=>decide (xs[j]? =ys[j]?)) h k (by rw[fR,fR];exact e) fun j u v hu hv=>by
   delta aO at hu hv;rw[qh]at hu hv;refine bE (uB.mp hu) fun x hx fF=>?_;subst fF;refine bE (uB.mp hv) fun y hy fF=>?_;subst fF
   (refine aa hx (aa hy ?_);refine ez DW ?_)
   exact vv
  rw[fR,VJ e]at q;exact q
 ·exact aa (bP (fun q=>e (aR _ q))) (Pz h k (by rw[fR,fR];exact e))
theorem RU{n a b:Nat}{xs ys:List Str}(h:H[a]? =some (.list (aW xs)))(k:H[b]? =some (.list (aW ys)))(e:xs=ys):Rc (n+1) H (.loc a) (.loc b) true:=by
 subst e;haveI q:=vz (k:=n) (f:=fun _=>true) h k rfl fun j u v hu hv=>by
  rw[hu]at hv;cases hv;delta aW at hu;rw[qh]at hu;refine bE (uB.mp hu) fun x hx fF=>?_;subst fF;haveI:=Br (k:=n) (H:=H) (i:=x) (j:=x)
  rwa [bN rfl]at this
 rwa [iE.mpr fun _ _=>rfl]at q
theorem iU{n a b:Nat}{xs:List AV}(h:H[a]? =some (.list xs))(k:H[b]? =some (.list [])):Rc (n+1) H (.loc a) (.loc b) (decide (xs=[])):=by
 cases xs with
 |nil=>exact vz (k:=n) (f:=fun _=>true) h k rfl fun j u v hu _=>by cases hu
 |cons x xs=>exact Pz h k nofun
theorem VK{a b:Nat}{xs ys:List Int}(h:H[a]? =some (.list (aO xs)))(k:H[b]? =some (.list (aO ys))):CD 3 H (.loc a) (.loc b) (decide (xs=ys)):=by
 by_cases q:a=b
 ·subst q;haveI e:aO xs=aO ys:=AO.list.inj (kP (h.symm.trans k));haveI:xs=ys:=(List.map_inj_right fun a b h=>AV.int.inj h).mp e;exact aa (bN this) pq
 ·exact Bu q (xN h k)
theorem VL{b:Nat}{ys:List Int}(k:H[b]? =some (.list (aO ys))){Z:Mz}(h:iP Z H):An H (.loc b) (fC Z) (decide (ys∈Z.map (·.2))):=by
 refine⟨(Z.map (·.2)).map fun x=>decide (x=ys),?_,(BJ _).trans (nj.mpr A4)⟩
 induction Z with
 |nil=>exact .nil
 |cons z Z ih=>exact .cons (VK (h z cI) k) (ih fun w hw=>h w (cZ _ hw))
theorem RV{a b:Nat}{Z Y:Mz}(h:H[a]? =some (.list (fC Z)))(k:H[b]? =some (.list (fC Y)))(hz:iP Z H)(hy:iP Y H)(e:Z.map (·.2)=Y.map (·.2)):Rc 3 H (.loc a) (.loc b) true:=by
 haveI el:(fC Z).length=(fC Y).length:=by
  haveI:=aR wX e;unfold fC;rw[bR,bR]at this ⊢;exact this
 haveI q:=vz (k:=2) (f:=fun _=>true) h k el fun j u v hu hv=>by
  unfold fC at hu hv;rw[qh]at hu hv;refine bE (uB.mp hu) fun z yq fF=>?_;subst fF;refine bE (uB.mp hv) fun y Xl fF=>?_;subst fF;haveI e1:z.2=y.2:=by
   haveI:=aR (fun l=>l[j]?) e;simp only[qh,yq,Xl,OT,OM]at this;exact this
  by_cases w:z.1=y.1
  ·exact aa w pq
  ·haveI:=xN (n:=1) (hz z (uy yq)) (hy y (uy Xl));rw[bN e1]at this;exact Bu w this
 rwa [iE.mpr fun _ _=>rfl]at q
theorem L6{α β:Type}{lt:β→β→Bool}{f:α→β}:∀{l:List α},(cJ (fun a b=>lt (f a) (f b)) l).map f=cJ lt (l.map f):=by
 intro rv
 induction rv with
 |nil=>
  exact rfl
 |cons x l ih=>
  haveI key:∀{l:List α},(ins (fun a b=>lt (f a) (f b)) x l).map f=ins lt (f x) (l.map f):=by
   intro l
   induction l with
   |nil=>rfl
   |cons y l ih=>
    show(if lt (f x) (f y)then x::y::l else y::ins _ x l).map f=if lt (f x) (f y)then _ else _
    split
    ·rfl
    ·(refine aa gC (aa ih ?_);with_reducible rfl)
  show(ins _ x (cJ _ l)).map f=ins lt (f x) (cJ lt (l.map f))
  (refine aa key (aa ih ?_);with_reducible rfl)
abbrev PR:=List Int×Nat
theorem uO{n l:Nat}{Z:Mz}(h:H[l]? =some (.list (fC Z)))(hz:iP Z H)(nd:(Z.map (·.2)).Nodup)(sm:Z.length<64){Γ:Prop}(κ:∀H' r Y,Cl n (.glob .sorted) [(.loc l)] H (.loc r) H'→Gw H H'→H'[r]? =some (.list (fC Y))→iP Y H'→Y.map (·.2)=cJ cL (Z.map (·.2))→(∀y∈Y,y∈Z)→H.length≤r→Γ):Γ:=by
 haveI len:(cJ (fun(a b:PR)=>cL a.1 b.1) (Z.map fun z=>(z.2,z.1))).length<64:=by rw[(cj _).length_eq,bR];exact sm
 refine TP H (.list ((cJ (fun(a b:PR)=>cL a.1 b.1) (Z.map fun z=>(z.2,z.1))).map fun(r:PR)=>AV.loc r.2)) (mC (by rw[bR];lia)) fun H1 r p g hr fr=>?_;haveI MH:∀t∈Z.map fun z=>(z.2,z.1),H[t.2]? =some (.list (t.1.map AV.int)):=fun t ht=>by
  refine bE (bX.mp ht) fun z yq fF=>?_;subst fF;exact hz z yq
 haveI Xw:Cl n (.glob .sorted) [.loc l] H (.loc r) H1:=p.e fun s=>U6 (rs:=Z.map fun z=>(z.2,z.1)) (by exact aa iM h) MH (by exact aa iM nd) (by rw[bR];exact sm) s;refine κ H1 r ((cJ (fun(a b:PR)=>cL a.1 b.1) (Z.map fun z=>(z.2,z.1))).map fun(r:PR)=>(r.2,r.1)) Xw g (by delta fC;exact aa iM hr) (fun w hw=>?_) ?_ (fun w hw=>?_) fr
 ·refine bE (bX.mp hw) fun r' JM fF=>?_;subst fF;refine bE (bX.mp ((cj _).mem_iff.mp JM)) fun z' yq fF=>?_;subst fF;exact g.ap (hz z' yq)
 ·refine aa iM ((L6 (f:=fun(r:PR)=>r.1)).trans ?_);refine aa iM ?_;rfl
 ·refine bE (bX.mp hw) fun r' JM fF=>?_;subst fF;refine bE (bX.mp ((cj _).mem_iff.mp JM)) fun z' yq fF=>?_;subst fF;exact yq
end
noncomputable def Fi(rows:List (List Int))(vs:List Int):List (List Int):=rows.flatMap fun r=>vs.map fun v=>r++[v]
noncomputable def zD(D:Str→List Int):List Str→List (List Int)→List (List Int)
 |[],rows=>rows
 |x::V,rows=>zD D V (Fi rows (D x))
noncomputable def posOf(x:Str):List Str→Nat
 |[]=>0
 |y::V=>if y=x then 0 else posOf x V+1
noncomputable def uG(row:List Int)(ps:List Nat):List Nat:=ps.filter fun p=>decide ((ps.filter fun q=>decide (q≠p)&&decide (row[q]? =row[p]?))≠[])
noncomputable def keepR(V W:List Str)(row:List Int):Bool:=decide (W.length<2)||decide (uG row (W.map fun x=>posOf x V)=[])
noncomputable def wG(V:List Str)(Ws:List (List Str))(rows:List (List Int)):List (List Int):=Ws.foldl (fun rs W=>rs.filter (keepR V W)) rows
section
variable{n:Nat}{lm:LM}{H H1 H2 H3 H0:Hp}{elt it MF cd:E}{t t2:Nat}{v w x:AV}{xs ys:List AV}{cD:Hp→Prop}
abbrev NP(n:Nat)(elt:E)(t:Nat)(MF:E)(t2:Nat)(lm:LM):AV→Hp→List AV→Hp→Prop:=F2 (fun x H v H'=>Ev n MF (lm.set t (some x)) H v H') fun x y H v H'=>Ev n elt ((lm.set t (some x)).set t2 (some y)) H v H'
theorem abz{El:AV→Hp→AV→Hp→Prop}(m:Mi (Fb TT El) cD xs H ys H1):Mi (Fe El) cD xs H ys H1:=by
 induction m with
 |nil=>exact .nil
 |cons h k _ ih=>exact .cons (by
   cases h with
   |no q=>cases q.1
   |yes q k=>obtain⟨_,rfl⟩:=q;exact .mk k) k ih
theorem cG{l:Nat}(h:Ev n MF (lm.set t (some x)) H (.loc l) H1)(k:Wk H1 l xs)(q:Mi (nU n elt (lm.set t (some x)) t2) (gW H1 l) xs H1 ys H2):NP n elt t MF t2 lm x H ys H2:=.mk l H1 xs h k (abz q)
theorem RW{l i:Nat}(h:Ev n it lm H (.loc l) H1)(k:Wk H1 l xs)(q:Mi (NP n elt t MF t2 lm) (gW H1 l) xs H1 ys H2)(p:Pu (.list ys) H2 w H3):En n (.asg i (.zm elt t it t2 MF)) lm H .next (lm.set i (some w)) H3:=Hs (UU h k q p.s) p
noncomputable abbrev acH:E:=.bin .add (.var 5) (.list (.cons (.var 6) .nil))
theorem Z6{l5:Nat}{r:List Int}(g5:lm[5]? =some (some (.loc l5)))(n6:6<lm.length)(sm:r.length<900)(bZ:∀{H},Gw H0 H→cD H){Γ:Prop}{vs:List Int}:∀{H:Hp},Gw H0 H→H[l5]? =some (.list (aO r))→
  (∀H' Y,Mi (nU n acH lm 6) cD (aO vs) H (fC Y) H'→Gw H H'→iP Y H'→Y.map (·.2)=vs.map (fun v=>r++[v])→(∀z∈Y,H.length≤z.1)→Γ)→Γ:=by
 induction vs with
 |nil=>exact fun{H} _ _ κ=>κ H [] .nil .refl (fun z hz=>(nx hz)) rfl fun z hz=>(nx hz)
 |cons v vs ih=>
  intro H g0 h5 κ;refine uX H (.list [.int v]) (by decide:1<bQ) fun H1 t p1 g1 h1=>?_;refine TP H1 (.list (aO (r++[v]))) (dH (mq (by exact aa bU (Nat.lt_trans (Nat.succ_lt_succ sm) (by decide))))) fun H2 l p2 g2 h2 f2=>?_;haveI g6:(lm.set 6 (some (.int v)))[6]? =some (some (.int v)):=mF n6;haveI g5':(lm.set 6 (some (.int v)))[5]? =some (some (.loc l5)):=(gZ (by decide)).trans g5;haveI add:Bo .add (.loc l5) (.loc t) H1 (.loc l) H2:=by rw[ints_app]at p2;exact p2.e fun s=>YG (g1.ap h5) h1 s
  haveI g02:=(g0.trans g1).trans g2;exact ih g02 (g2.ap (g1.ap h5)) fun H3 Y a b d e fr=>κ H3 ((l,r++[v])::Y) (cR (cF (jX (aj g5') (b9 (ai (aj g6) aq) p1) add)) (bZ g02) a) ((g1.trans g2).trans b)
   (fun z hz=>(bw.mp hz).elim (fun q=>by exact aa q (b.ap h2)) (d z)) (aR (wY _) e) fun z hz=>(bw.mp hz).elim (fun q=>by exact aa q (Nat.le_trans g1.len f2)) fun hz=>Nat.le_trans (g1.trans g2).len (fr z hz)
theorem VM{iJ vl ep:Nat}{x:Str}{vs:List Int}{kvs:List (AV×AV)}(g1:lm[1]? =some (some (.loc iJ)))(g4:lm[4]? =some (some (.str x)))(n6:6<lm.length)(hk:dJ (.str x) kvs=some (.loc vl))(bZ:∀{H},Gw H0 H→cD H){Γ:Prop}{Z:Mz}:∀{H:Hp},Gw H0 H→H[iJ]? =some (.dict kvs ep)→H[vl]? =some (.list (aO vs))→iP Z H→(∀z∈Z,z.2.length<900)→
  (∀H' Y,Mi (NP n acH 5 (.sub (.var 1) (.var 4)) 6 lm) cD (fC Z) H (fC Y) H'→Gw H H'→iP Y H'→Y.map (·.2)=Fi (Z.map (·.2)) vs→(∀z∈Y,H.length≤z.1)→Γ)→Γ:=by
 induction Z with
 |nil=>exact fun{H} _ _ _ _ _ κ=>κ H [] .nil .refl (fun z hz=>(nx hz)) rfl fun z hz=>(nx hz)
 |cons z Z ih=>
  intro H g0 hV hl hz sm κ;haveI s5:(lm.set 5 (some (.loc z.1)))[5]? =some (some (.loc z.1)):=mF (Nat.lt_of_succ_lt n6);haveI s1:(lm.set 5 (some (.loc z.1)))[1]? =some (some (.loc iJ)):=(gZ (by decide)).trans g1;haveI s4:(lm.set 5 (some (.loc z.1)))[4]? =some (some (.str x)):=(gZ (by decide)).trans g4;refine Z6 (n:=n) (lm:=lm.set 5 (some (.loc z.1))) (cD:=gW H vl) (H0:=H) s5 (by exact aa F5 n6) (sm z cI) (fun g=>uF hl g) (vs:=vs) .refl (hz z cI) fun H1 Y1 a1 b1 d1 e1 f1=>?_;refine ih (g0.trans b1) (b1.ap hV) (b1.ap hl) (iP.gr (fun w hw=>hz w (cZ _ hw)) b1) (fun w hw=>sm w (cZ _ hw)) fun H2 Y2 a2 b2 d2 e2 f2=>?_;haveI app:fC (Y1++Y2)=fC Y1++fC Y2:=ic;exact κ H2 (Y1++Y2) (app▸cR (cG (gR (aj s1) (aj s4) (oW hV hk)) (bL hl) a1) (bZ (g0.trans b1)) a2) (b1.trans b2) (fun w hw=>(dc.mp hw).elim (fun hw=>b2.ap (d1 w hw)) (d2 w)) (by(refine aa ic (aa e1 ?_);refine aa e2 ?_);rfl) fun w hw=>(dc.mp hw).elim (f1 w) fun hw=>Nat.le_trans b1.len (f2 w hw)
noncomputable def Wg(lN iJ lZ:Nat)(u3 u4 u7 u9:Option AV):LM:=[some (.loc lN),some (.loc iJ),some (.loc lZ),u3,u4,none,none,u7,none,u9,none,none,none]
structure Ka(D:Str→List Int)(V:List Str)(iJ:Nat)(kvs:List (AV×AV))(ep:Nat)(vl:Str→Nat)(H:Hp):Prop where
 d:H[iJ]? =some (.dict kvs ep)
 k:∀x∈V,dJ (.str x) kvs=some (.loc (vl x))
 l:∀x∈V,H[vl x]? =some (.list (aO (D x)))
theorem Ka.gr{D:Str→List Int}{V:List Str}{iJ ep:Nat}{kvs:List (AV×AV)}{vl:Str→Nat}(h:Ka D V iJ kvs ep vl H)(g:Gw H H1):Ka D V iJ kvs ep vl H1:=⟨g.ap h.d,h.k,fun x hx=>g.ap (h.l x hx)⟩
theorem VN{rows:List (List Int)}{vs:List Int}{n:Nat}(h:∀r∈rows,r.length=n):∀r∈Fi rows vs,r.length=n+1:=fun r hr=>by
 refine bE (AI.mp hr) fun q hq hr=>?_;refine bE (bX.mp hr) fun v _ fF=>?_;subst fF
 (refine aa bU (aa (h q hq) ?_));rfl
theorem VO{vs:List Int}(h:vs.length≤2):∀{rows:List (List Int)},(Fi rows vs).length≤rows.length*2:=by
 intro rv
 induction rv with
 |nil=>
  exact Nat.zero_le _
 |cons r rows ih=>
  show(vs.map _++Fi rows vs).length≤(rows.length+1)*2;rw[bU,bR,Nat.succ_mul,Nat.add_comm];exact Nat.add_le_add (ih) h
structure Rz(Z:Mz)(l3 n:Nat)(H:Hp):Prop where
 h3:H[l3]? =some (.list (fC Z))
 hz:iP Z H
 hl:∀z∈Z,z.2.length=n
theorem len_num{a b c:Nat}(len:b≤a*2)(sm:a*2^(c+1)<64):b*2^c<64:=by
 rw[Nat.pow_succ]at sm;refine Nat.lt_of_le_of_lt (Nat.mul_le_mul_right _ len) ?_;rw[Nat.mul_assoc,Nat.mul_comm 2];exact sm
theorem L7{lv:Nat}{D:Str→List Int}{V:List Str}{lN iJ lZ ep:Nat}{kvs:List (AV×AV)}{vl:Str→Nat}{u7 u9:Option AV}{N:Nat}(hD:∀x∈V,(D x).length≤2)(bZ:∀{H},Gw H0 H→cD H){Γ:Prop}{W:List Str}:∀{Z:Mz}{l3 n:Nat}{H:Hp}{u4:Option AV},(∀x∈W,x∈V)→Gw H0 H→Ka D V iJ kvs ep vl H→Rz Z l3 n H→n+W.length<60→Z.length*2^W.length<64→N≤H.length→(∀z∈Z,N≤z.1)→
  (∀CH Tp H' Y,Tn (fS lv Bl.tl.tl.hd.b1) (.one 4) cD (aW W) (Wg lN iJ lZ (some (.loc l3)) u4 u7 u9) H none (Wg lN iJ lZ (some (.loc Tp)) CH u7 u9) H'→Gw H H'→Rz Y Tp (n+W.length) H'→Y.map (·.2)=zD D W (Z.map (·.2))→Y.length<64→(∀z∈Y,N≤z.1)→Γ)→Γ:=by
 induction W with
 |nil=>exact fun{Z l3 n H u4} hV g0 vc r sn sm nh nz κ=>κ u4 l3 H Z .nil .refl r rfl (by rw[AK,Nat.pow_zero,Nat.mul_one]at sm;exact sm) nz
 |cons x W ih=>
  intro Z l3 n H u4 hV g0 vc r sn sm nh nz κ;haveI hx:=hV x cI;haveI h3:=r.h3;refine VM (n:=lv) (lm:=Wg lN iJ lZ (some (.loc l3)) (some (.str x)) u7 u9) (cD:=gW H l3) (H0:=H) rfl rfl (by show 6<13;decide) (vc.k x hx) (fun g=>uF h3 g) (Z:=Z) .refl vc.d (vc.l x hx) r.hz (fun z yq=>by exact aa (r.hl z yq) (Nat.lt_of_le_of_lt (Nat.le_add_right _ _) (Nat.lt_trans sn (by decide)))) fun H1 Y a1 b1 d1 e1 f1=>?_;haveI len:Y.length≤Z.length*2:=by
   haveI:=VO (hD x hx) (rows:=Z.map (·.2));rw[←e1,bR,bR]at this;exact this
  have sm2:=len_num len sm;haveI sY:Y.length<64:=Nat.lt_of_le_of_lt (Nat.le_mul_of_pos_right _ (Nat.pow_pos (by decide))) sm2;refine uX H1 (.list (fC Y)) (mC (by unfold fC;rw[bR];exact Nat.lt_trans sY (by decide))) fun H2 l p2 g2 h2=>?_;haveI hlY:∀z∈Y,z.2.length=n+1:=fun z yq=>VN (rows:=Z.map (·.2)) (vs:=D x) (fun r' hr=>(bX.mp hr).elim fun w hw=>hw.2▸r.hl w hw.1) z.2 (e1▸dF yq);have g02:=(g0.trans b1).trans g2;have ln:n+(x::W).length=n+1+W.length:=by rw[wW,Nat.add_assoc,Nat.add_comm 1]
  rw[ln]at sn κ;exact ih (l3:=l) (u4:=some (.str x)) (fun y hy=>hV y (cZ _ hy)) g02 ((vc.gr b1).gr g2) ⟨h2,d1.gr g2,hlY⟩ sn sm2 (Nat.le_trans nh (b1.trans g2).len) (fun z yq=>Nat.le_trans nh (f1 z yq)) fun CH Tp H' Y' a b r' f k m=>
   κ CH Tp H' Y' (dm fM (aS (RW (aj rfl) (bL h3) a1 p2)) (bZ g02) a) ((b1.trans g2).trans b) r' (f.trans (by refine aa e1 ?_;rfl)) k m
end
section
variable{lv:Nat}{lm:LM}{H H1 H2 H3 H0:Hp}{cD:Hp→Prop}{l9 l10:Nat}{ps:List Nat}{row:List Int}
noncomputable abbrev cdQ:E:=.and (.cmp .ne (.var 12) (.var 11)) (.cmp .eq (.sub (.var 10) (.var 12)) (.sub (.var 10) (.var 11)))
noncomputable abbrev cdP:E:=.cmp .ne (.fm (.var 12) 12 (.var 9) cdQ) (.list .nil)
noncomputable abbrev cdR:E:=.or (.cmp .lt (.call (.lit (.glob .len)) (.cons (.var 9) .nil)) (.lit (.int 2))) (.cmp .eq (.fm (.var 11) 11 (.var 9) cdP) (.list .nil))
theorem Qs{p:Nat}(h:H[l10]? =some (.list (aO row))){a:Int}(k:row[p]? =some a):Sb (.loc l10) (.int (p:Int)) H (.int a):=
 nB h (Int.natCast_nonneg p) (by rw[Int.toNat_natCast];show(row.map AV.int)[p]? =_;(refine aa qh ?_;refine aa k ?_);rfl)
theorem abA{p:Nat}{a:Int}(EW:lm[10]? =some (some (.loc l10)))(g11:lm[11]? =some (some (.int (p:Int))))(n:12<lm.length)(EZ:H[l10]? =some (.list (aO row)))(hp:row[p]? =some a)(bZ:cD H):∀{qs:List Nat},(∀q∈qs,q<row.length)→
  Mi (ku lv cdQ (.var 12) lm 12) cD (nats qs) H (nats (qs.filter fun q=>decide (q≠p)&&decide (row[q]? =row[p]?))) H:=by
 intro rv
 induction rv with
 |nil=>
  intro _;exact .nil
 |cons q qs ih=>
  intro hq;haveI ih:=ih fun z hz=>hq z (cZ _ hz);haveI hb:row[q]? =some row[q]! :=by
   haveI:=hq q cI
   (refine aa (jy this) ?_;refine aa N7 ?_;refine aa (jy this) ?_);rfl
  haveI s12:(lm.set 12 (some (.int (q:Int))))[12]? =some (some (.int (q:Int))):=mF n;haveI s11:(lm.set 12 (some (.int (q:Int))))[11]? =some (some (.int (p:Int))):=(gZ (by decide)).trans g11;haveI XE:(lm.set 12 (some (.int (q:Int))))[10]? =some (some (.loc l10)):=(gZ (by decide)).trans EW;haveI ne:Rc 3 H (.int (q:Int)) (.int (p:Int)) (decide (q=p)):=(nj.mpr Int.ofNat_inj:decide ((q:Int)=(p:Int))=decide (q=p))▸gT;haveI eq:Rc 3 H (.int row[q]!) (.int a) (decide (row[q]? =row[p]?)):=by
   (refine aa hb (aa hp ?_);refine ez DW ?_);exact gT
  by_cases z:q=p
  ·refine aa (we (by rw[bP (fun w=>w z),OH];decide)) ?_;rw[bN z]at ne;exact cR (MJ (nv (bA (aj s12) (aj s11) (iN ne)))) bZ ih
  ·rw[bP z]at ne;haveI te:=ly (n:=lv) (bA (aj s12) (aj s11) (iN ne)) (bA (gR (aj XE) (aj s12) (Qs EZ hb)) (gR (aj XE) (aj s11) (Qs EZ hp)) (gh eq))
   by_cases w:row[q]? =row[p]?
   ·refine aa (CZ (by rw[bN z,bN w];rfl)) ?_;rw[bN w]at te;exact cR (cIT te (aj s12)) bZ ih
   ·refine aa (we (by rw[bP w,OI];decide)) ?_;rw[bP w]at te;exact cR (MJ te) bZ ih
theorem DY{xs:List Nat}:decide (nats xs=[])=decide (xs=[]):=nj.mpr ⟨fun h=>qg.mp h,fun h=>h▸rfl⟩
theorem abB(g9:lm[9]? =some (some (.loc l9)))(EW:lm[10]? =some (some (.loc l10)))(n:12<lm.length)(hps:∀p∈ps,p<row.length)(sm:ps.length<900)(bZ:∀{H},Gw H0 H→cD H):∀{qs:List Nat}{H:Hp},Gw H0 H→H[l9]? =some (.list (nats ps))→H[l10]? =some (.list (aO row))→(∀q∈qs,q<row.length)→
  ∃H',Mi (ku lv cdP (.var 11) lm 11) cD (nats qs) H (nats (qs.filter fun p=>decide ((ps.filter fun q=>decide (q≠p)&&decide (row[q]? =row[p]?))≠[]))) H'∧Gw H H':=by
 intro rv
 induction rv with
 |nil=>
  intro H _ _ _ _;exact⟨H,.nil,.refl⟩
 |cons p qs ih=>
  intro H g0 h9 EZ hq;haveI hb:row[p]? =some row[p]! :=by
   haveI:=hq p cI
   (refine aa (jy this) ?_;refine aa N7 ?_;refine aa (jy this) ?_);rfl
  haveI n11:11<lm.length:=Nat.lt_of_succ_lt n;haveI s11:(lm.set 11 (some (.int (p:Int))))[11]? =some (some (.int (p:Int))):=mF n11;haveI s9:(lm.set 11 (some (.int (p:Int))))[9]? =some (some (.loc l9)):=(gZ (by decide)).trans g9;haveI XE:(lm.set 11 (some (.int (p:Int))))[10]? =some (some (.loc l10)):=(gZ (by decide)).trans EW;haveI qr:=abA (lv:=lv) (lm:=lm.set 11 (some (.int (p:Int)))) (cD:=gW H l9) XE s11 (by exact aa F5 n) EZ hb (uF h9 .refl) (qs:=ps) hps;refine uX H (.list (nats (ps.filter fun q=>decide (q≠p)&&decide (row[q]? =row[p]?)))) (nH (mq (by haveI:=C2 (fun q=>decide (q≠p)&&decide (row[q]? =row[p]?)) ps;omega))) fun H1 t1 p1 g1 k1=>?_;refine uX H1 (.list []) (by decide:0<bQ) fun H2 t2 p2 g2 k2=>?_;haveI ne:=iU (n:=2) (g2.ap k1) k2;haveI g:=g1.trans g2;refine bE (ih (g0.trans g) (g.ap h9) (g.ap EZ) fun z hz=>hq z (cZ _ hz)) fun H3 a b=>?_;refine⟨H3,?_,g.trans b⟩;rw[DY]at ne
  by_cases w:(ps.filter fun q=>decide (q≠p)&&decide (row[q]? =row[p]?))=[]
  ·refine aa (we (by rw[bP (fun z=>z w)];decide)) ?_;rw[bN w]at ne;exact cR (MJ (bA (pT (aj s9) (bL h9) qr p1) (b9 aq p2) (iN ne))) (bZ (g0.trans g)) a
  ·refine aa (CZ (by rw[bN w])) ?_;rw[bP w]at ne;exact cR (cIT (bA (pT (aj s9) (bL h9) qr p1) (b9 aq p2) (iN ne)) (aj s11)) (bZ (g0.trans g)) a
theorem Z7(g9:lm[9]? =some (some (.loc l9)))(EW:lm[10]? =some (some (.loc l10)))(n:12<lm.length)(hps:∀p∈ps,p<row.length)(sm:ps.length<900)(h9:H[l9]? =some (.list (nats ps)))(EZ:H[l10]? =some (.list (aO row))){Γ:Prop}(κ:∀H',Te lv cdR lm H (decide (ps.length<2)||decide (uG row ps=[])) H'→Gw H H'→Γ):Γ:=by
 have lt:Te lv (.cmp .lt (.call (.lit (.glob .len)) (.cons (.var 9) .nil)) (.lit (.int 2))) lm H (decide (ps.length<2)) H:=by
  haveI e:decide (((nats ps).length:Int)<2)=decide (ps.length<2):=nj.mpr (by unfold nats;rw[bR];omega);exact bA (bI (ai (aj g9) aq) (rC (pS h9))) aT (e▸Wq)
 by_cases s:ps.length<2
 ·rw[bN s]at lt κ;exact κ H (Ng lt) .refl
 ·rw[bP s]at lt κ;refine bE (abB (lv:=lv) (cD:=gW H l9) g9 EW n hps sm (fun g=>uF h9 g) (qs:=ps) .refl h9 EZ hps) fun H1 a b=>?_;refine uX H1 (.list (nats (uG row ps))) (nH (mq (by unfold uG;exact Nat.lt_of_le_of_lt (C2 _ _) (by omega)))) fun H2 t1 p1 g1 k1=>?_;refine uX H2 (.list []) (by decide:0<bQ) fun H3 t2 p2 g2 k2=>?_;haveI ne:=iU (n:=2) (g2.ap k1) k2;rw[DY]at ne;rw[OJ]at κ;exact κ H3 (zy lt (bA (pT (aj g9) (bL h9) a p1) (b9 aq p2) (gh ne))) ((b.trans g1).trans g2)
theorem abC(g9:lm[9]? =some (some (.loc l9)))(n:12<lm.length)(sm:ps.length<900)(bZ:∀{H},Gw H0 H→cD H):∀{Z:Mz}{H:Hp},Gw H0 H→H[l9]? =some (.list (nats ps))→iP Z H→(∀z∈Z,∀p∈ps,p<z.2.length)→
  ∃H',Mi (ku lv cdR (.var 10) lm 10) cD (fC Z) H (fC (Z.filter fun z=>decide (ps.length<2)||decide (uG z.2 ps=[]))) H'∧Gw H H':=by
 intro rv
 induction rv with
 |nil=>
  intro H _ _ _ _;exact⟨H,.nil,.refl⟩
 |cons z Z ih=>
  intro H g0 h9 hz hp;haveI n10:10<lm.length:=Nat.lt_of_succ_lt (Nat.lt_of_succ_lt n);haveI XE:(lm.set 10 (some (.loc z.1)))[10]? =some (some (.loc z.1)):=mF n10;haveI s9:(lm.set 10 (some (.loc z.1)))[9]? =some (some (.loc l9)):=(gZ (by decide)).trans g9;refine Z7 (lv:=lv) (lm:=lm.set 10 (some (.loc z.1))) s9 XE (by exact aa F5 n) (hp z cI) sm h9 (hz z cI) fun H1 t1 g1=>?_;refine bE (ih (g0.trans g1) (g1.ap h9) (iP.gr (fun w hw=>hz w (cZ _ hw)) g1) fun w hw=>hp w (cZ _ hw)) fun H2 a b=>?_;refine⟨H2,?_,g1.trans b⟩;cases q:(decide (ps.length<2)||decide (uG z.2 ps=[]))with
  |true=>
   rw[q]at t1;exact aa (CZ (by exact q)) (cR (cIT t1 (aj XE)) (bZ (g0.trans g1)) a)
  |false=>
   rw[q]at t1;refine aa (we (by rw[q];decide)) ?_;exact cR (MJ t1) (bZ (g0.trans g1)) a
end
theorem Aa{H:Hp}{x:Str}:∀{V:List Str},x∈V→CL H (.str x) (aW V) (posOf x V)
 |y::V,h=>by
  show CL H (.str x) (.str y::aW V) (if y=x then 0 else posOf x V+1)
  haveI q:=Br (k:=3) (H:=H) (i:=y) (j:=x)
  by_cases e:y=x
  ·refine aa (aF e) ?_;rw[bN e]at q;exact .here q
  ·refine aa (au e) ?_;rw[bP e]at q;exact .next q (Aa ((bw.mp h).resolve_left fun w=>e w.symm))
theorem rQ{x:Str}:∀{V:List Str},x∈V→V[posOf x V]? =some x
 |y::V,h=>by
  refine aa (show posOf x (y::V)=if y=x then 0 else posOf x V+1 from rfl) ?_
  by_cases e:y=x
  ·(refine aa (aF e) (aa e ?_));rfl
  ·(refine aa (au e) (aa Od ?_));exact rQ ((bw.mp h).resolve_left (fun q=>e q.symm))
theorem Z8{x:Str}{V:List Str}(h:x∈V):posOf x V<V.length:=(fU.mp (rQ h)).1
section
variable{n:Nat}{lm:LM}{H H1 H2 H3 H0:Hp}{cD:Hp→Prop}{V:List Str}{D:Str→List Int}{lN iJ lZ ep:Nat}{kvs:List (AV×AV)}{vl:Str→Nat}{Ks:List Vt}
theorem x_run(g0:lm[0]? =some (some (.loc lN)))(n8:8<lm.length)(hN:H[lN]? =some (.list (aW V)))(bZ:cD H):∀{W:List Str},(∀x∈W,x∈V)→Mi (nU n (.cQ (.var 0) .index (.cons (.var 8) .nil)) lm 8) cD (aW W) H (nats (W.map fun x=>posOf x V)) H:=by
 intro rv
 induction rv with
 |nil=>
  intro _;exact .nil
 |cons x W ih=>
  intro h;exact cR (cF (d9 (aj ((gZ (by decide)).trans g0)) (gG hN rfl) (ai (aj (mF n8)) aq) (Uq (yW hN) (Aa (h x cI))))) bZ (ih fun y hy=>h y (cZ _ hy))
structure Kw(V:List Str)(H:Hp)(k:Vt):Prop where
 p:H[k.p]? =some (.list (aW k.W))
 w:∀y∈k.W,y∈V
 l:k.W.length<900
theorem L8(bZ:∀{H},Gw H0 H→cD H){Γ:Prop}{Ks:List Vt}:∀{Z:Mz}{l3:Nat}{H:Hp}{u4 u7 u9:Option AV},Gw H0 H→H[lN]? =some (.list (aW V))→(∀k∈Ks,Kw V H k)→Rz Z l3 V.length H→Z.length<64→
  (∀qf sN Tp H' Y,Tn (fS n Bl.tl.tl.tl.hd.b1) (.one 7) cD (Ks.map fun k=>.loc k.p) (Wg lN iJ lZ (some (.loc l3)) u4 u7 u9) H none (Wg lN iJ lZ (some (.loc Tp)) u4 qf sN) H'→Gw H H'→H'[Tp]? =some (.list (fC Y))→iP Y H'→Y.map (·.2)=wG V (Ks.map Vt.W) (Z.map (·.2))→Y.length<64→(∀z∈Y,z∈Z)→Γ)→Γ:=by
 induction Ks with
 |nil=>exact fun{Z l3 H u4 u7 u9} g0 hN hK r sm κ=>κ u7 u9 l3 H Z .nil .refl r.h3 r.hz rfl sm fun z hz=>hz
 |cons k Ks ih=>
  intro Z l3 H u4 u7 u9 g0 hN hK r sm κ;haveI hk:=hK k cI;haveI hp:=hk.p;haveI h3:=r.h3;haveI xr:=x_run (n:=n) (lm:=Wg lN iJ lZ (some (.loc l3)) u4 (some (.loc k.p)) u9) (cD:=gW H k.p) rfl (by show 8<13;decide) hN (uF hp .refl) (W:=k.W) hk.w;refine uX H (.list (nats (k.W.map fun x=>posOf x V))) (nH (mq (by rw[bR];exact Nat.lt_trans hk.l (by decide)))) fun H1 l9 p1 g1 k1=>?_;refine(abC (lv:=n) (lm:=Wg lN iJ lZ (some (.loc l3)) u4 (some (.loc k.p)) (some (.loc l9))) (cD:=gW H1 l3) (ps:=k.W.map fun x=>posOf x V) rfl (by show 12<13;decide) (by rw[bR];exact hk.l) (fun g=>uF (g1.ap h3) g) (Z:=Z) .refl k1 (r.hz.gr g1) fun z yq p XA=>(bX.mp XA).elim fun x hx=>by
   (refine ez hx.2 (aa (r.hl z yq) ?_));exact Z8 (hk.w x hx.1)).elim fun H2 h2=>?_
  haveI a2:=h2.1;haveI g2:=h2.2;rw[bR]at a2;haveI sY:(Z.filter fun z=>decide (k.W.length<2)||decide (uG z.2 (k.W.map fun x=>posOf x V)=[])).length<64:=Nat.lt_of_le_of_lt (C2 _ _) sm;refine uX H2 (.list (fC (Z.filter fun z=>decide (k.W.length<2)||decide (uG z.2 (k.W.map fun x=>posOf x V)=[])))) (mC (by delta fC;rw[bR];exact Nat.lt_trans sY (by decide))) fun H3 l p3 g3 k3=>?_;haveI g:=(g1.trans g2).trans g3;refine ih (u4:=u4) (u7:=some (.loc k.p)) (u9:=some (.loc l9)) (g0.trans g) (g.ap hN) (fun k' sI=>⟨g.ap (hK k' (cZ _ sI)).p,(hK k' (cZ _ sI)).w,(hK k' (cZ _ sI)).l⟩) ⟨k3,iP.gr (fun w hw=>r.hz w (dG.mp hw).1) g,fun z yq=>r.hl z (dG.mp yq).1⟩ sY fun qf sN Tp H' Y a b d e f m sb=>?_;refine κ qf sN Tp H' Y (dm fM (aA (Jz (aj rfl) (bL hp) xr p1) (aS (rZ (aj rfl) (bL (g1.ap h3)) a2 p3))) (bZ (g0.trans g)) a) (g.trans b) d e (f.trans ?_) m fun z yq=>(dG.mp (sb z yq)).1;show wG V (Ks.map Vt.W) _=wG V (Ks.map Vt.W) ((Z.map (·.2)).filter (keepR V k.W));refine aa Ow ?_;rfl
noncomputable def nY(V:List Str)(D:Str→List Int)(Ws:List (List Str)):List (List Int):=if V=[]then []else wG V Ws (zD D V [[]])
theorem RX(vc:Ka D V iJ kvs ep vl H)(hN:H[lN]? =some (.list (aW V)))(hA:H[lZ]? =some (.list (Ks.map fun k=>.loc k.p)))(hK:∀k∈Ks,Kw V H k)(hD:∀x∈V,(D x).length≤2)(nV:V.length<60)(n2:2^V.length<64)(nd:(nY V D (Ks.map Vt.W)).Nodup){Γ:Prop}(κ:∀H' l Z,Cf (n+1) .ry [.loc lN,.loc iJ,.loc lZ] H (.loc l) H'→Gw H H'→H'[l]? =some (.list (fC Z))→iP Z H'→Z.map (·.2)=cJ cL (nY V D (Ks.map Vt.W))→H.length≤l→(∀z∈Z,H.length≤z.1)→Z.length<64→Γ):Γ:=by
 refine uX H (.list []) (by decide:0<bQ) fun H1 t1 p1 g1 k1=>?_;haveI te:=iU (n:=2) (g1.ap hN) k1;unfold nY at nd κ
 by_cases q:V=[]
 ·subst q;refine TP H1 (.list []) (by decide:0<bQ) fun H2 l p2 g2 k2 f2=>?_;rw[aF rfl]at κ;exact κ H2 l ([]) (jY rfl rfl (aJ (cV (bA (aj rfl) (b9 aq p1) (gh te)) (aJ (jE (b9 aq p2)) rfl)) rfl)) (g1.trans g2) k2 (fun z hz=>(nomatch hz)) rfl (Nat.le_trans g1.len f2) (fun z hz=>(nomatch hz)) (by decide)
 ·rw[au q]at nd κ;rw[bP (fun(w:aW V=[])=>q (qg.mp w))]at te;refine TP H1 (.list []) (by decide:0<bQ) fun H2 t2 p2 g2 k2 f2=>?_;refine uX H2 (.list [.loc t2]) (by decide:1<bQ) fun H3 l3 p3 g3 k3=>?_;have g:=(g1.trans g2).trans g3;refine L7 (lv:=n) (N:=H.length) (lN:=lN) (lZ:=lZ) (u7:=none) (u9:=none) (cD:=gW H3 lN) (H0:=H3) hD (fun g'=>uF (g.ap hN) g') (W:=V) (Z:=[(t2,[])]) (n:=0) (u4:=none) (fun x hx=>hx) .refl (vc.gr g) ⟨k3,fun z hz=>by refine aa (bO.mp hz) ?_;exact g3.ap k2,fun z hz=>by refine aa (bO.mp hz) ?_;rfl⟩ (by rw[Nat.zero_add];exact nV) (by rw[za,Nat.one_mul];exact n2) g.len (fun z hz=>by refine aa (bO.mp hz) ?_;exact Nat.le_trans g1.len f2) fun u4 l4 H4 Y a4 g4 r4 m4 s4 n4=>?_;have g':=g.trans g4;rw[Nat.zero_add]at r4;refine L8 (n:=n) (iJ:=iJ) (lZ:=lZ) (cD:=gW H4 lZ) (H0:=H4) (fun g''=>uF (g'.ap hA) g'') (Ks:=Ks) (u4:=u4) (u7:=none) (u9:=none) .refl (g'.ap hN) (fun k hk=>⟨g'.ap (hK k hk).p,(hK k hk).w,(hK k hk).l⟩) r4 s4 fun u7 u9 l5 H5 X a5 g5 k5 r5 m5 s5 n5=>?_;rw[m4]at m5;refine uO (n:=n) k5 r5 (by refine aa m5 ?_;exact nd) s5 fun H6 r Y6 a6 g6 k6 r6 m6 n6 f6=>?_;refine κ H6 r Y6 (jY (aI:=Wg lN iJ lZ (some (.loc l5)) u4 u7 u9) rfl rfl ?_) ((g'.trans g5).trans g6) k6 r6 (by(refine aa m6 ?_;refine aa m5 ?_);rfl) (Nat.le_trans (g'.trans g5).len f6) (fun z hz=>n4 z (n5 z (n6 z hz))) (by
   rw[←bR (f:=(·.2)),m6,(cj _).length_eq,bR];exact s5)
  refine aA (bF (bA (aj rfl) (b9 aq p1) (gh te)) bD) ?_;refine aA (cC (b9 (ai (b9 aq p2) aq) p3)) ?_;refine aA (gS (aj rfl) (bL (g.ap hN)) a4 bD) ?_;refine aA (gS (aj rfl) (bL (g'.ap hA)) a5 bD) ?_;exact aJ (jE (bI (ai (aj rfl) aq) a6)) rfl
end
section
variable{V:List Str}{D:Str→List Int}{Ws:List (List Str)}{row:List Int}
theorem Ma:∀{W:List Str}{rows:List (List Int)},W.Nodup→(row∈zD D W rows↔∃r∈rows,∃s:Str→Int,(∀x∈W,s x∈D x)∧row=r++W.map s):=by
 intro rv
 induction rv with
 |nil=>
  intro rows _;exact⟨fun h=>⟨row,h,fun _=>0,fun x hx=>(nx hx),(eW _).symm⟩,fun⟨r,hr,s,_,e⟩=>by rw[e,OB,eW];exact hr⟩
 |cons x W ih=>
  intro rows nd;have uS:=dO.mp nd;show row∈zD D W (Fi rows (D x))↔_;rw[ih uS.2];constructor
  ·rintro ⟨r,hr,s,hs,rfl⟩
   refine bE (AI.mp hr) fun q hq hr=>?_;refine bE (bX.mp hr) fun v hv fF=>?_;subst fF;have e:∀y∈W,fset s x v y=s y:=fun y hy=>aP fun z=>uS.1 (z▸hy);refine⟨q,hq,fset s x v,fun y hy=>?_,?_⟩
   ·rcases bw.mp hy with rfl|hy
    ·exact aa aU hv
    ·exact aa (e y hy) (hs y hy)
   ·rw[gC,aU,gQ,wg e];rfl
  ·rintro ⟨r,hr,s,hs,rfl⟩
   exact⟨r++[s x],AI.mpr ⟨r,hr,bX.mpr ⟨s x,hs x cI,rfl⟩⟩,s,fun y hy=>hs y (cZ _ hy),by rw[gQ];rfl⟩
theorem EC(hD:∀x∈V,(D x).Nodup):∀{W:List Str}{rows:List (List Int)},(∀x∈W,x∈V)→rows.Nodup→(zD D W rows).Nodup:=by
 intro rv
 induction rv with
 |nil=>
  intro rows _ h;exact h
 |cons x W ih=>
  intro rows hV h;refine ih (fun y hy=>hV y (cZ _ hy)) ?_;haveI hx:=hD x (hV x cI);clear hV
  induction rows with
  |nil=>exact .nil
  |cons r rows ih=>
   have h':=dO.mp h;show(((D x).map fun v=>r++[v])++Fi rows (D x)).Nodup;refine oH.mpr ⟨zh.mpr (hx.imp fun n e=>n (GJ (List.append_cancel_left e)).1),ih h'.2,fun a ha b hb e=>?_⟩;subst e;refine bE (bX.mp ha) fun v _ fF=>?_;subst fF;refine bE (AI.mp hb) fun q hq hb=>?_;refine bE (bX.mp hb) fun w _ e=>?_;exact h'.1 ((List.append_inj' e rfl).1▸hq)
theorem Mb:∀{Ws:List (List Str)}{rows:List (List Int)},row∈wG V Ws rows↔row∈rows∧∀W∈Ws,keepR V W row=true:=by
 intro rv
 induction rv with
 |nil=>
  intro rows;exact⟨fun h=>⟨h,fun W hW=>(nx hW)⟩,fun h=>h.1⟩
 |cons W Ws ih=>
  intro rows;show row∈wG V Ws (rows.filter (keepR V W))↔_;rw[ih,dG];constructor
  ·rintro ⟨⟨a,b⟩,d⟩
   exact⟨a,fun W' h=>(bw.mp h).elim (fun e=>e▸b) (d W')⟩
  ·rintro ⟨a,d⟩
   exact⟨⟨a,d W cI⟩,fun W' h=>d W' (cZ _ h)⟩
theorem ED:∀{Ws:List (List Str)}{rows:List (List Int)},rows.Nodup→(wG V Ws rows).Nodup:=by
 intro rv
 induction rv with
 |nil=>
  intro rows h;exact h
 |cons W Ws ih=>
  intro rows h;exact ih (h.filter _)
theorem DZ{W:List Str}{s:Str→Int}(hW:W.Nodup)(hV:∀x∈W,x∈V):keepR V W (V.map s)=true↔Apt s W:=by
 haveI get:∀x∈W,(V.map s)[posOf x V]? =some (s x):=fun x hx=>by(refine aa qh ?_;refine aa (rQ (hV x hx)) ?_);rfl
 haveI inj:∀x∈W,∀y∈W,posOf x V=posOf y V→x=y:=fun x hx y hy e=>by
  haveI h:=rQ (hV x hx);rw[e,rQ (hV y hy)]at h;exact(kP h).symm
 delta keepR;rw[OG,oZ,oZ];constructor
 ·rintro (h|h) p hp q hq ne e
  ·haveI:=(OV (l₁:=[p,q]) (l₂:=W) (by simp[ne]) (fun x hx=>by
    rcases bw.mp hx with rfl|hx
    ·exact hp
    ·exact aa (bO.mp hx) hq))
   exact absurd h (Nat.not_lt.mpr this)
  ·haveI h1:=C0.mp h (posOf p V) (dF hp);refine h1 (bN fun z=>?_);haveI h2:=C0.mp z (posOf q V) (dF hq);refine h2 ?_;rw[get p hp,get q hq,e,uA];exact⟨bN fun w=>ne (inj q hq p hp w).symm,bN rfl⟩
 ·intro ap;refine .inr (C0.mpr fun i hi=>?_);refine bE (bX.mp hi) fun p hp fF=>?_;subst fF;intro z;refine cP z (C0.mpr fun j hj=>?_);refine bE (bX.mp hj) fun q hq fF=>?_;subst fF;intro w;rw[get p hp,get q hq,uA,oZ,oZ]at w;exact ap p hp q hq (fun e=>w.1 (by(refine aa e ?_;with_reducible rfl))) (kP w.2).symm
theorem uc(nd:V.Nodup)(ne:V≠[])(hW:∀W∈Ws,W.Nodup∧∀x∈W,x∈V):row∈nY V D Ws↔∃s,ur V D Ws s∧row=V.map s:=by
 unfold nY;rw[au ne,Mb,Ma nd];constructor
 ·rintro ⟨⟨r,hr,s,hs,rfl⟩,k⟩
  rw[bO.mp hr,Ov]at k ⊢;exact⟨s,⟨hs,fun W h=>(DZ (hW W h).1 (hW W h).2).mp (k W h)⟩,rfl⟩
 ·rintro ⟨s,S,rfl⟩
  exact⟨⟨[],bO.mpr rfl,s,S.dom,rfl⟩,fun W h=>(DZ (hW W h).1 (hW W h).2).mpr (S.con W h)⟩
theorem uP(hD:∀x∈V,(D x).Nodup):(nY V D Ws).Nodup:=by
 unfold nY
 split
 ·exact .nil
 ·exact ED (EC hD (fun x hx=>hx) (dO.mpr ⟨fun h=>(nx h),.nil⟩))
theorem RY{l m:List (List Int)}(nd:l.Nodup)(p:l.Perm m):cJ cL l=cJ cL m:=by
 haveI key:∀{l:List (List Int)},l.Nodup→(cJ cL l).Pairwise fun a b=>cL a b=true:=fun nd=>
  nJ (fun a _ b _ c _=>lR) (nd.imp fun h=>pL h)
 refine ju (fun a _ b _=>lO) (((cj l).trans p).trans (cj m).symm) (key nd) (key (p.nodup_iff.mp nd))
theorem IB{l m:List Str}(nd:l.Nodup)(p:l.Perm m):cJ strLt l=cJ strLt m:=by
 haveI key:∀{l:List Str},l.Nodup→(cJ strLt l).Pairwise fun a b=>strLt a b=true:=fun nd=>
  nJ (fun a _ b _ c _=>lJ) (nd.imp fun h=>pK h)
 refine ju (fun a _ b _=>lM) (((cj l).trans p).trans (cj m).symm) (key nd) (key (p.nodup_iff.mp nd))
theorem IC{R:List (List (Str×Int))}{C:List (List Str)}(nd:V.Nodup)(ne:V≠[])(hW:∀W∈Ws,W.Nodup∧∀x∈W,x∈V)(hD:∀x∈V,(D x).Nodup)(f:Found (V:=V) R (ur V D C))(hC:∀s,ur V D C s↔ur V D Ws s):(R.map fun A=>V.map (fnOf A)).Nodup∧(R.map fun A=>V.map (fnOf A)).Perm (nY V D Ws):=by
 have rep:∀{A:List (Str×Int)}{s},(A.map (·.1)).Perm V→Ext A s→V.map (fnOf A)=V.map s:=fun p e=>wg fun x hx=>ua p mO e x hx;haveI nd1:(R.map fun A=>V.map (fnOf A)).Nodup:=by
  refine zh.mpr (f.ne.imp_of_mem fun{A B} hA hB h e=>?_);obtain⟨pA,s,_,eA⟩:=f.snd A hA;obtain⟨pB,t,_,eB⟩:=f.snd B hB;refine h s eA fun k a q=>?_;haveI hk:k∈V:=by
   refine pB.mem_iff.mp ?_;clear h eB pB hB e eA
   induction B with
   |nil=>cases q
   |cons c B ih=>
    by_cases z:c.1=k
    ·exact ez z cI
    ·exact cZ _ (ih ((xh z).symm.trans q))
  rw[rep pA eA,rep pB eB]at e;haveI:=List.map_inj_left.mp e k hk;exact aa this (eB k a q)
 refine⟨nd1,(N8 nd1 (uP hD)).mpr fun row=>?_⟩;rw[uc nd ne hW,bX];constructor
 ·rintro ⟨A,hA,rfl⟩
  obtain⟨p,s,S,e⟩:=f.snd A hA;exact⟨s,(hC s).mp S,rep p e⟩
 ·rintro ⟨s,S,rfl⟩
  refine bE (f.all s ((hC s).mpr S)) fun A hA e=>?_;exact⟨A,hA,rep (f.snd A hA).1 e⟩
theorem xO{S M:List Vt}{x:Str}(h:∀k∈S,k.W=[x])(s:Str→Int):ur V D (M.map Vt.W) s↔ur V D ((S++M).map Vt.W) s:=by
 constructor
 ·refine fun q=>⟨q.dom,fun W hW=>?_⟩;rw[ic]at hW;rcases dc.mp hW with hW|hW
  ·refine bE (bX.mp hW) fun k hk fF=>?_;subst fF;refine aa (h k hk) ?_;intro a ha b hb ne;rw[bO.mp ha,bO.mp hb]at ne;exact absurd rfl ne
  ·exact q.con W hW
 ·exact fun q=>⟨q.dom,fun W hW=>q.con W (by exact aa ic (cU _ hW))⟩
end
def Lk(lm:LM)(f:Nat→Option AV):Prop:=∀i,i<28→lm[i]? =some (f i)
noncomputable def uw(f:Nat→Option AV)(i:Nat)(v:AV):Nat→Option AV:=fun j=>if j=i then some v else f j
section
variable{lm:LM}{f:Nat→Option AV}{H H1 H2 H3:Hp}{i:Nat}{v w:AV}{b:Bool}
theorem Lk.set(K:Lk lm f)(n:i<28):Lk (lm.set i (some v)) (uw f i v):=fun j hj=>by
 unfold uw
 by_cases e:j=i
 ·subst e;exact aa (aF rfl) (mF (fU.mp (K j n)).1)
 ·(refine aa (au e) (aa (gZ (dg e)) ?_));exact K j hj
theorem dW{lv:Nat}(K:Lk lm f)(h:f i=some v)(n:i<28):Ev lv (.var i) lm H v H:=aj (by(refine aa (K i n) (aa h ?_);with_reducible rfl))
theorem t_v{lv:Nat}(K:Lk lm f)(h:f i=some v)(n:i<28)(k:Tr v H b):Te lv (.var i) lm H b H:=fB (by(refine aa (K i n) (aa h ?_);with_reducible rfl)) k
end
structure Sd where
 L:DL
 V:List Str
 D:Str→List Int
 S:List Vt
 M:List Vt
 x:Str
 lP:Nat
 dP:Nat
 lS:Nat
 dS:Nat
 lK:Nat
 lV:Nat
 lN:Nat
 iJ:Nat
 lZ:Nat
 Ah:Nat
 kvs:List (AV×AV)
 hs:List Nat
 vl:Str→Nat
 σ:Dz
 c:Cm
structure Lc where
 xs:List (Int×Nat)
 n0:Nat
 Tq:Nat
 X:List AV
inductive Wi(c:Cm)(h:Nat):Prop
 |mk (a b e:Nat) (ys:List Int) (q1:c (.z h)=some (h,.tuple [.loc a,.loc b])) (q2:c (.z a)=some (a,.dom (aO ys) e)) (q3:c (.z b)=some (b,.list (aO ys))) (q4:ys.length<900)
theorem Wi.chg{S:Ro→Bool}{c c':Cm}{x:Nat}(h:Wi c x)(G:eG S c c'):Wi c' x:=by
 cases h with
 |mk a b e ys q1 q2 q3 q4=>exact⟨a,b,e,ys,G.2 _ _ q1,G.2 _ _ q2,G.2 _ _ q3,q4⟩
structure Vk(kvs:List (AV×AV))(vl:Str→Nat)(D:Str→List Int)(c:Cm)(y:Str):Prop where
 g:dJ (.str y) kvs=some (.loc (vl y))
 z:c (.z (vl y))=some (vl y,.list (aO (D y)))
theorem Vk.chg{S:Ro→Bool}{kvs:List (AV×AV)}{vl:Str→Nat}{D:Str→List Int}{c c':Cm}{y:Str}(h:Vk kvs vl D c y)(G:eG S c c'):Vk kvs vl D c' y:=⟨h.g,G.2 _ _ h.z⟩
abbrev Sd.pr(d:Sd)(c:Cm):Prop:=pY d.L d.V d.lP d.dP d.lS d.dS d.lK d.lV (d.S++d.M) c
structure Lb(Ω:Lc)(d:Sd)(j:Nat)(H:Hp):Prop where
 rep:Rep (mix d.L d.V d.σ d.c) H
 pr:pY d.L d.V d.lP d.dP d.lS d.dS d.lK d.lV (d.S++d.M) d.c
 fr:My d.c
 nd:d.V.Nodup
 abc:∀y∈d.V,Abc y
 hD:∀y∈d.V,(d.D y).length≤2∧(d.D y).Nodup∧d.D y≠[]
 dom:jh d.V d.D d.σ
 ks:yG d.V d.S d.M d.x
 kn:(d.S++d.M).length≤j
 nm:d.c (.a 20)=some (d.lN,.list (aW d.V))
 va:∃ep,d.c (.a 21)=some (d.iJ,.dict d.kvs ep)
 vk:∀y∈d.V,Vk d.kvs d.vl d.D d.c y
 vn:d.kvs.length≤3*j
 ap:d.c (.a 22)=some (d.lZ,.list ((d.S++d.M).map fun k=>.loc k.p))
 hd:d.c (.a 23)=some (d.Ah,.list (d.hs.map AV.loc))
 hh:∀h∈d.hs,Wi d.c h
 hn:d.hs.length≤j
 it:d.c (.a 31)=some (Ω.Tq,.list Ω.X)
 ar:d.c (.a 30)=some (0,.arg Ω.xs Ω.n0)
structure Lf(d:Sd)(lm:LM)(f:Nat→Option AV):Prop where
 k:Lk lm f
 l1:f 1=some (.loc d.lP)
 l2:f 2=some (.loc d.lN)
 l3:f 3=some (.loc d.iJ)
 l4:f 4=some (.loc d.lZ)
 l5:f 5=some (.loc d.Ah)
theorem Lf.set{d:Sd}{lm:LM}{f:Nat→Option AV}{i:Nat}{v:AV}(h:Lf d lm f)(n:i<28)(m:5<i):Lf d (lm.set i (some v)) (uw f i v):=
 ⟨h.k.set n,(au (Nat.ne_of_lt (Nat.lt_trans (by decide) m))).trans h.l1,(au (Nat.ne_of_lt (Nat.lt_trans (by decide) m))).trans h.l2,(au (Nat.ne_of_lt (Nat.lt_trans (by decide) m))).trans h.l3,(au (Nat.ne_of_lt (Nat.lt_trans (by decide) m))).trans h.l4,(au (Nat.ne_of_lt m)).trans h.l5⟩
theorem rR{V:List Str}(nd:V.Nodup)(h:∀y∈V,Abc y):V.length≤3:=
 nd.length_le_of_subset (l₂:=[sa,sb,sc]) fun y hy=>by
  rcases h y hy with e|e|e<;>refine aa e ?_<;>simp
noncomputable def bit(r v:Int):Bool:=decide (Int.fmod (Int.fdiv (1+Int.fdiv r 4) v) 2=1)
noncomputable def Kd(r:Int):List Int:=(if bit r 1 then [1]else [])++if bit r 2 then [2]else []
noncomputable def Kf(r:Int):Str:=if Int.fmod r 3=0 then sa else if Int.fmod r 3=1 then sb else sc
theorem NQ(r:Int):(Kd r).length≤2∧(Kd r).Nodup:=by
 unfold Kd;cases bit r 1<;>cases bit r 2<;>decide
theorem abD(r:Int):Abc (Kf r):=by
 unfold Kf
 split
 ·exact .inl rfl
 ·split
  ·exact .inr (.inl rfl)
  ·exact .inr (.inr rfl)
section
variable{n:Nat}{lm:LM}{f:Nat→Option AV}{H H1 H2 H3:Hp}{i r v:Int}{c:Cm}{L:DL}{V:List Str}{σ:Dz}
theorem zE{j:Int}(h:0<j∧j<1000000):Bo .mod (.int i) (.int j) H (.int (Int.fmod i j)) H:=YF h.1
theorem HD{j:Int}(h:0<j∧j<1000000):Bo .fdiv (.int i) (.int j) H (.int (Int.fdiv i j)) H:=TZ h.1 h.2
theorem D4{i:Int}{v:AV}(p:Pu (.pX 0 i) H v H1):Cl n (.glob .range) [.int i] H v H1:=p.e fun s=>QM s
theorem RZ{i j:Int}{v:AV}(p:Pu (.pX i j) H v H1):Cl n (.glob .range) [.int i,.int j] H v H1:=p.e fun s=>QN s
noncomputable abbrev nmE:E:=.sub (.list (.cons (.lit (.str (av "a"))) (.cons (.lit (.str (av "b"))) (.cons (.lit (.str (av "c"))) .nil)))) (.bin .mod (.var 8) (.lit (.int 3)))
theorem Z9(K:Lk lm f)(h8:f 8=some (.int r))(R:Rep (mix L V σ c) H){Γ:Prop}(κ:∀H',Ev n nmE lm H (.str (Kf r)) H'→Rep (mix L V σ c) H'→Γ):Γ:=by
 refine R.tmp (.list [.str sa,.str sb,.str sc]) (by decide:3<bQ) fun H1 t p1 R1 g1 h1 _=>?_;haveI h0:0≤Int.fmod r 3:=Int.fmod_nonneg_of_pos r (by decide);haveI h3:Int.fmod r 3<3:=Int.fmod_lt_of_pos r (by decide);refine κ H1 (gR (b9 (ai aT (ai aT (ai aT aq))) p1) (jX (dW K h8 (by decide)) aT (zE (by decide))) (nB h1 h0 ?_)) R1;delta Kf;rcases(by lia:Int.fmod r 3=0∨Int.fmod r 3=1∨Int.fmod r 3=2)with e|e|e<;>refine aa e ?_<;>rfl
noncomputable abbrev Yq:E:=.cmp .eq (.bin .mod (.bin .fdiv (.bin .add (.lit (.int 1)) (.bin .fdiv (.var 8) (.lit (.int 4)))) (.bin .pow (.lit (.int 2)) (.bin .sub (.var 10) (.lit (.int 1))))) (.lit (.int 2))) (.lit (.int 1))
theorem VP{p:Int}(K:Lk lm f)(h8:f 8=some (.int r))(EZ:f 10=some (.int v))(hp:(v=1∧p=1)∨(v=2∧p=2)):Te n Yq lm H (bit r p) H:=by
 have pw:Bo .pow (.int 2) (.int (v -1)) H (.int p) H:=by
  rcases hp with⟨rfl,rfl⟩|⟨rfl,rfl⟩
  ·exact Py (j:=0) (by decide) (by decide)
  ·exact Py (j:=1) (by decide) (by decide)
 haveI pp:0<p∧p<1000000:=by rcases hp with⟨_,rfl⟩|⟨_,rfl⟩<;>decide
 exact bA (jX (jX (jX aT (jX (dW K h8 (by decide)) aT (HD (by decide))) YD) (jX aT (jX (dW K EZ (by decide)) aT Px) pw) (HD pp)) aT (zE (by decide))) aT (gh gT)
noncomputable abbrev gvE:E:=.fm (.var 10) 10 (.call (.lit (.glob .range)) (.cons (.lit (.int 1)) (.cons (.lit (.int 3)) .nil))) Yq
theorem aaa(K:Lk lm f)(h8:f 8=some (.int r))(R:Rep (mix L V σ c) H){Γ:Prop}(κ:∀H' l,(∀i,En n (.asg i gvE) lm H .next (lm.set i (some (.loc l))) H')→Rep (mix L V σ (c.up (.a 24) (l,.list (aO (Kd r))))) H'→Γ):Γ:=by
 refine R.tmp (.pX 1 3) (by decide) fun H1 t p1 R1 g1 h1 _=>?_;refine R1.fY (.a 24) rfl (.list (aO (Kd r))) (dH (Nat.lt_of_le_of_lt (NQ r).1 (by decide))) fun H2 l p2 R2 g2=>?_;haveI one:∀{v p:Int},(v=1∧p=1)∨(v=2∧p=2)→ku n Yq (.var 10) lm 10 (.int v) H1 (aO (if bit r p then [v]else [])) H1:=fun{v p} hp=>by
  haveI K':Lk (lm.set 10 (some (.int v))) (uw f 10 (.int v)):=K.set (by decide);haveI tb:=VP (n:=n) (H:=H1) K' ((au (by decide)).trans h8) (aF rfl) hp;cases q:bit r p with
  |true=>rw[q]at tb;exact cIT tb (dW K' (aF rfl) (by decide))
  |false=>rw[q]at tb;exact MJ tb
 haveI st:gW H1 t H1:=bq h1 h1 rfl;refine κ H2 l (fun i=>rZ (bI (ai aT (ai aT aq)) (RZ p1)) (xs:=[.int 1,.int 2]) (.pX 1 3 h1 rfl) (cR (one (.inl ⟨rfl,rfl⟩)) st (cR (one (.inr ⟨rfl,rfl⟩)) st .nil)) ?_) R2;rw[eW,←ints_app];exact p2
end
noncomputable abbrev lwB:SL:=Wn.tl.tl.tl.tl.tl.hd.b1
noncomputable abbrev lwI:S:=lwB.tl.tl.tl.tl.hd
noncomputable abbrev Yr:S:=lwI.b2.hd
noncomputable abbrev Ys:S:=Yr.b2.hd
noncomputable abbrev acI:S:=Ys.b2.hd
noncomputable abbrev acJ:S:=acI.b2.hd
noncomputable abbrev uY:S:=acJ.b2.hd
theorem VS{l l':List Nat}(s:∀n,n∈l→n∈l'){r:Ro}(k:jc l false r=true):jc l' false r=true:=by
 cases r<;>first|exact rq.mpr (s _ (rq.mp k))|exact k
theorem eG.w{l l':List Nat}{c c':Cm}(h:eG (jc l false) c c')(s:∀n,n∈l→n∈l'):eG (jc l' false) c c':=h.mono fun _ k=>VS s k
structure Qd where
 kind:Int
 r:Int
 gv:List Int
 nm:Str
 lG:Nat
structure Lq(Ω:Lc)(d:Sd)(j:Nat)(lm:LM)(f:Nat→Option AV)(H:Hp)(q:Qd):Prop extends Lb Ω d j H where
 lf:Lf d lm f
 l7:f 7=some (.int q.kind)
 l8:f 8=some (.int q.r)
 l9:f 9=some (.str q.nm)
 yr:f 11=some (.loc q.lG)
 g:d.c (.a 24)=some (q.lG,.list (aO q.gv))
 gl:q.gv.length≤2
 gn:q.gv.Nodup
 ab:Abc q.nm
theorem j5{l B:List Nat}(k:(l.all fun n=> !B.contains n)=true){n:Nat}(h:B.contains n=true):jc l false (.a n)=false:=by
 show l.contains n=false;cases q:l.contains n with
 |false=>rfl
 |true=>
  have:=iE.mp k n (rq.mp q);rw[h]at this;cases this
noncomputable abbrev prB:List Nat:=[6,7,10,11,12,13]
noncomputable abbrev tmB:List Nat:=[0,1,2,3,4,5,14,16,17,18,19]
noncomputable abbrev XF:List Nat:=[6,7,10,11,12,13,20,21,22,30,31,0,1,2,3,4,5,14,16,17,18,19]
theorem pY.chg{L:DL}{V:List Str}{lP dP lS dS lK lV:Nat}{Ks:List Vt}{c c':Cm}{S:Ro→Bool}(h:pY L V lP dP lS dS lK lV Ks c)(G:eG S c c')(no:∀{n},prB.contains n=true→S (.a n)=false):pY L V lP dP lS dS lK lV Ks c':=
 ⟨G.k h.p rfl (no rfl),G.k h.pa rfl (no rfl),G.k h.k rfl (no rfl),h.v.imp fun _ q=>G.k q rfl (no rfl),⟨G.k h.sv.i rfl (no rfl),G.k h.sv.f rfl (no rfl)⟩,h.kf.chg G⟩
theorem My.chg{l:List Nat}{c c':Cm}(h:My c)(G:eG (jc l false) c c')(no:∀{n},tmB.contains n=true→jc l false (.a n)=false):My c':=fun r hr=>by
 have nz:r.nz=true:=by cases r<;>first|rfl|cases hr
 refine(G.1 r nz ?_).trans (h r hr);cases r<;>try rfl
 exact no hr
theorem aab{n:Nat}(h:prB.contains n=true):XF.contains n=true:=rq.mpr ((by decide:∀n∈prB,n∈XF) n (rq.mp h))
theorem aac{n:Nat}(h:tmB.contains n=true):XF.contains n=true:=rq.mpr ((by decide:∀n∈tmB,n∈XF) n (rq.mp h))
inductive Done(Ω:Lc)(j:Nat)(b:SL)(lm:LM)(H:Hp):Prop
 |mk (d':Sd) (aI:LM) (f':Nat→Option AV) (H':Hp) (e:fS 9 b lm H .next aI H') (b':Lb Ω d' (j+1) H') (l':Lf d' aI f')
section
variable{Ω:Lc}{j:Nat}{d:Sd}{q:Qd}{lm:LM}{f:Nat→Option AV}{H:Hp}
theorem Lb.succ(b:Lb Ω d j H):Lb Ω d (j+1) H:={b with kn:=Nat.le_succ_of_le b.kn,vn:=Nat.le_trans b.vn (Nat.mul_le_mul_left 3 (Nat.le_succ j)),hn:=Nat.le_succ_of_le b.hn}
theorem xP(b:Lb Ω d j H){x:Str}:Ct (.loc d.lN) (.str x) H (decide (x∈d.V)):=in_list (b.rep.gM rfl b.nm) BK
structure Sm2(d d':Sd)(c:Cm)(hs:List Nat):Prop where
 c:d'.c=c
 hs:d'.hs=hs
 V:d'.V=d.V
 lf:∀{lm f},Lf d lm f→Lf d' lm f
theorem Lb.acK{l:List Nat}{c':Cm}{H':Hp}{ck:Dz}{hs:List Nat}{j':Nat}(b:Lb Ω d j H)(R:Rep (mix d.L d.V ck c') H')(dk:jh d.V d.D ck)(G:eG (jc l false) d.c c')(k:(l.all fun n=> !XF.contains n)=true)(jj:j≤j')(hd:c' (.a 23)=some (d.Ah,.list (hs.map AV.loc)))(hh:∀h∈hs,Wi c' h)(hn:hs.length≤j'){Γ:Prop}(κ:∀d',Lb Ω d' j' H'→Sm2 d d' c' hs→Γ):Γ:=
 κ {d with σ:=ck,c:=c',hs:=hs} ⟨R,b.pr.chg G fun h=>j5 k (aab h),b.fr.chg G fun h=>j5 k (aac h),b.nd,b.abc,b.hD,dk,b.ks,Nat.le_trans b.kn jj,G.k b.nm rfl (j5 k rfl),b.va.imp fun _ q=>G.k q rfl (j5 k rfl),fun y hy=>(b.vk y hy).chg G,Nat.le_trans b.vn (Nat.mul_le_mul_left 3 jj),G.k b.ap rfl (j5 k rfl),hd,hh,hn,G.k b.it rfl (j5 k rfl),G.k b.ar rfl (j5 k rfl)⟩ ⟨rfl,rfl,rfl,fun lf=>⟨lf.k,lf.l1,lf.l2,lf.l3,lf.l4,lf.l5⟩⟩
theorem Lb.chg{l:List Nat}{c':Cm}{H':Hp}{ck:Dz}{j':Nat}(b:Lb Ω d j H)(R:Rep (mix d.L d.V ck c') H')(dk:jh d.V d.D ck)(G:eG (jc l false) d.c c')(k:(l.all fun n=> !XF.contains n)=true)(jj:j≤j')(k3:l.contains 23=false){Γ:Prop}(κ:∀d',Lb Ω d' j' H'→Sm2 d d' c' d.hs→Γ):Γ:=
 b.acK R dk G k jj (G.k b.hd rfl k3) (fun h hh=>(b.hh h hh).chg G) (Nat.le_trans b.hn jj) κ
theorem mkL{L:DL}{V:List Str}{D:Str→List Int}{S M:List Vt}{x:Str}{lP dP lS dS lK lV lN iJ lZ Ah:Nat}{kvs:List (AV×AV)}{hs:List Nat}{vl:Str→Nat}{σ:Dz}{c:Cm}(rep:Rep (mix L V σ c) H)(pr:pY L V lP dP lS dS lK lV (S++M) c)(fr:My c)(nd:V.Nodup)(abc:∀y∈V,Abc y)(hD:∀y∈V,(D y).length≤2∧(D y).Nodup∧D y≠[])(dom:jh V D σ)(ks:yG V S M x)(kn:(S++M).length≤j)(nm:c (.a 20)=some (lN,.list (aW V)))(va:∃ep,c (.a 21)=some (iJ,.dict kvs ep))(vk:∀y∈V,Vk kvs vl D c y)(vn:kvs.length≤3*j)(ap:c (.a 22)=some (lZ,.list ((S++M).map fun k=>.loc k.p)))(hd:c (.a 23)=some (Ah,.list (hs.map AV.loc)))(hh:∀h∈hs,Wi c h)(hn:hs.length≤j)(it:c (.a 31)=some (Ω.Tq,.list Ω.X))(ar:c (.a 30)=some (0,.arg Ω.xs Ω.n0))(k:Lk lm f)(l1:f 1=some (.loc lP))(l2:f 2=some (.loc lN))(l3:f 3=some (.loc iJ))(l4:f 4=some (.loc lZ))(l5:f 5=some (.loc Ah)){Γ:Prop}(κ:∀d',Lb Ω d' j H→Lf d' lm f→d'.c=c→d'.hs=hs→Γ):Γ:=
 κ ⟨L,V,D,S,M,x,lP,dP,lS,dS,lK,lV,lN,iJ,lZ,Ah,kvs,hs,vl,σ,c⟩ ⟨rep,pr,fr,nd,abc,hD,dom,ks,kn,nm,va,vk,vn,ap,hd,hh,hn,it,ar⟩ ⟨k,l1,l2,l3,l4,l5⟩ rfl rfl
theorem mkD{b:SL}{Mq:LM}{H0:Hp}{L:DL}{V:List Str}{D:Str→List Int}{S M:List Vt}{x:Str}{lP dP lS dS lK lV lN iJ lZ Ah:Nat}{kvs:List (AV×AV)}{hs:List Nat}{vl:Str→Nat}{σ:Dz}{c:Cm}(e:fS 9 b Mq H0 .next lm H)(rep:Rep (mix L V σ c) H)(pr:pY L V lP dP lS dS lK lV (S++M) c)(fr:My c)(nd:V.Nodup)(abc:∀y∈V,Abc y)(hD:∀y∈V,(D y).length≤2∧(D y).Nodup∧D y≠[])(dom:jh V D σ)(ks:yG V S M x)(kn:(S++M).length≤j+1)(nm:c (.a 20)=some (lN,.list (aW V)))(va:∃ep,c (.a 21)=some (iJ,.dict kvs ep))(vk:∀y∈V,Vk kvs vl D c y)(vn:kvs.length≤3*(j+1))(ap:c (.a 22)=some (lZ,.list ((S++M).map fun k=>.loc k.p)))(hd:c (.a 23)=some (Ah,.list (hs.map AV.loc)))(hh:∀h∈hs,Wi c h)(hn:hs.length≤j+1)(it:c (.a 31)=some (Ω.Tq,.list Ω.X))(ar:c (.a 30)=some (0,.arg Ω.xs Ω.n0))(k:Lk lm f)(l1:f 1=some (.loc lP))(l2:f 2=some (.loc lN))(l3:f 3=some (.loc iJ))(l4:f 4=some (.loc lZ))(l5:f 5=some (.loc Ah)):Done Ω j b Mq H0:=
 mkL (j:=j+1) rep pr fr nd abc hD dom ks kn nm va vk vn ap hd hh hn it ar k l1 l2 l3 l4 l5 fun d' b' l' _ _=>⟨d',lm,f,H,e,b',l'⟩
theorem Dh{H:Hp}{s:Str}:Rc 3 H (.str s) (.str s) (!false):=by
 haveI:=GO (k:=3) (H:=H) (i:=s) (j:=s)
 rwa [bN rfl]at this
theorem br4(p:Lq Ω d j lm f H q):Done Ω j Yr.b1 lm H:=by
 haveI K:=p.lf.k;haveI args:CF 9 (.cons (.var 1) (.cons (.var 9) (.cons (.var 8) .nil))) lm H [.loc d.lP,.str q.nm,.int q.r] H:=ai (dW K p.lf.l1 (by decide)) (ai (dW K p.l9 (by decide)) (ai (dW K p.l8 (by decide)) aq));haveI mem:=xP p.toLb (x:=q.nm)
 by_cases h:q.nm∈d.V
 ·rw[bN h]at mem;haveI e:=vM (s:=xm) p.rep p.pr (r9 (n:=7) (v:=.int q.r) p.rep p.pr p.ab h) (.inl ⟨rfl,rfl⟩);exact⟨d,lm,f,H,aS (bF (bA (bI args (E4 e)) (Hl (bA (dW K p.l9 (by decide)) (dW K p.lf.l2 (by decide)) (nR mem)) aT) (iN Dh)) bD),p.toLb.succ,p.lf⟩
 ·rw[bP h]at mem;refine L4 (n:=7) (i:=q.r) p.rep p.pr h fun H1 e1 R1=>?_;haveI e:=vM (s:=W3) p.rep p.pr e1 (.inr ⟨rfl,rfl⟩);haveI b1:Lb Ω d j H1:={p.toLb with rep:=R1};haveI acL:=xP b1 (x:=q.nm);rw[bP h]at acL;exact⟨d,lm,f,H1,aS (bF (bA (bI args (E4 e)) (Ho (bA (dW K p.l9 (by decide)) (dW K p.lf.l2 (by decide)) (nR acL)) aT) (iN Dh)) bD),b1.succ,p.lf⟩
theorem br6(p:Lq Ω d j lm f H q):Done Ω j acI.b1 lm H:=
 ⟨d,lm,f,H,aS (zB (aJ (jt (qm (dW p.lf.k p.lf.l1 (by decide)) (oq (p.rep.gM rfl p.pr.p)) (p.rep.gM rfl p.pr.pa) (fun _=>rfl) (ai (dW p.lf.k p.l8 (by decide)) aq) VI)) rfl) (J6 (aS ZD))),p.toLb.succ,p.lf⟩
theorem br7(p:Lq Ω d j lm f H q):Done Ω j acJ.b1 lm H:=by
 haveI K:=p.lf.k;refine L5 (n:=8) p.rep p.pr fun H1 c1 ep e1 R1 vP hc1=>?_;haveI G1:eG (jc [12,13] false) d.c c1:=hc1▸eG.trans (bk rfl rfl) (bk rfl rfl);refine R1.fY (.a 20) rfl (.list (aW [])) (by decide:0<bQ) fun H2 lN p2 R2 g2=>?_;refine R2.fY (.a 22) rfl (.list []) (by decide:0<bQ) fun H3 lZ p3 R3 g3=>?_;have G2:eG (jc [20,22] false) c1 ((c1.up (.a 20) (lN,.list (aW []))).up (.a 22) (lZ,.list [])):=eG.trans (bk rfl rfl) (bk rfl rfl);have G:eG (jc [12,13,20,22] false) d.c ((c1.up (.a 20) (lN,.list (aW []))).up (.a 22) (lZ,.list [])):=(G1.w (by decide)).trans (G2.w (by decide));exact mkD (S:=[]) (M:=[]) (x:=d.x) (D:=d.D) (kvs:=d.kvs) (hs:=d.hs) (vl:=d.vl) (aA (dM (qd (dW K p.lf.l1 (by decide)) (oq (p.rep.gM rfl p.pr.p)) (p.rep.gM rfl p.pr.pa) (fun _=>rfl) aq e1)) (aA (cC (b9 aq p2)) (aS (cC (b9 aq p3)))))
  R3 (vP.chg G2 (j5 rfl)) (p.fr.chg G (j5 rfl)) .nil MB MB MB ⟨MB,MB,MB,(by decide:0<100)⟩ (Nat.zero_le _) (aL up_eq rfl) (p.va.imp fun _ q=>G.k q rfl rfl) MB (Nat.le_trans p.vn (Nat.mul_le_mul_left 3 (Nat.le_succ j))) up_eq (G.k p.hd rfl rfl) (fun h hh=>(p.hh h hh).chg G) (Nat.le_succ_of_le p.hn) (G.k p.it rfl rfl) (G.k p.ar rfl rfl) ((K.set (by decide)).set (by decide)) p.lf.l1 rfl p.lf.l3 rfl p.lf.l5
end
section
variable{Ω:Lc}{j:Nat}{d:Sd}{aH:Qd}{lm:LM}{f:Nat→Option AV}{H:Hp}
noncomputable abbrev pairE:E:=.ite (.and (.cmp .eq (.bin .mod (.var 8) (.lit (.int 2))) (.lit (.int 1))) (.cmp .gt (.bin .mod (.var 8) (.call (.lit (.glob .len)) (.cons (.var 2) .nil))) (.lit (.int 0)))) (.list (.cons (.sub (.var 2) (.lit (.int 0))) (.cons (.sub (.var 2) (.bin .mod (.var 8) (.call (.lit (.glob .len)) (.cons (.var 2) .nil)))) .nil))) (.call (.lit (.glob .list)) (.cons (.var 2) .nil))
theorem R0(p:Lq Ω d j lm f H aH)(ne:d.V≠[]){Γ:Prop}(κ:∀H' l W,Ev 9 pairE lm H (.loc l) H'→Rep (mix d.L d.V d.σ (d.c.up (.z l) (l,.list (aW W)))) H'→d.c (.z l)=none→W≠[]→W.Nodup→(∀y∈W,y∈d.V)→(W.length=1→d.V.length=1)→Γ):Γ:=by
 have K:=p.lf.k;have hN:=p.rep.gM rfl p.nm;have l0:0<d.V.length:=FY.mpr ne;have l3:=rR p.nd p.abc;have ln:Ev 9 (.bin .mod (.var 8) (.call (.lit (.glob .len)) (.cons (.var 2) .nil))) lm H (.int (Int.fmod aH.r ((aW d.V).length:Int))) H:=jX (dW K p.l8 (by decide)) (bI (ai (dW K p.lf.l2 (by decide)) aq) (rC (pS hN))) (zE (by unfold aW;rw[bR];exact⟨Int.ofNat_lt.mpr l0,Int.ofNat_lt.mpr (Nat.lt_of_le_of_lt l3 (by decide))⟩));rw[show(aW d.V).length=d.V.length from bR _]at ln;haveI t1:Te 9 (.cmp .eq (.bin .mod (.var 8) (.lit (.int 2))) (.lit (.int 1))) lm H (decide (Int.fmod aH.r 2=1)) H:=bA (jX (dW K p.l8 (by decide)) aT (zE (by decide))) aT (gh gT);haveI t2:Te 9 (.cmp .gt (.bin .mod (.var 8) (.call (.lit (.glob .len)) (.cons (.var 2) .nil))) (.lit (.int 0))) lm H (decide (0<Int.fmod aH.r (d.V.length:Int))) H:=bA ln aT aah;have whole:Te 9 (.and (.cmp .eq (.bin .mod (.var 8) (.lit (.int 2))) (.lit (.int 1))) (.cmp .gt (.bin .mod (.var 8) (.call (.lit (.glob .len)) (.cons (.var 2) .nil))) (.lit (.int 0)))) lm H (decide (Int.fmod aH.r 2=1)&&decide (0<Int.fmod aH.r (d.V.length:Int))) H:=by
  cases q:decide (Int.fmod aH.r 2=1)with
  |true=>rw[q]at t1;exact ly t1 t2
  |false=>rw[q]at t1;exact nv t1
 cases q:(decide (Int.fmod aH.r 2=1)&&decide (0<Int.fmod aH.r (d.V.length:Int)))with
 |true=>
  rw[q]at whole;rw[uA,oZ,oZ]at q;haveI kJ:Int.fmod aH.r (d.V.length:Int)<d.V.length:=Int.fmod_lt_of_pos aH.r (Int.ofNat_lt.mpr l0);generalize Int.fmod aH.r (d.V.length:Int)=k at ln q kJ;haveI g0:d.V[0]? =some d.V[0]:=jy l0;have hk:k.toNat<d.V.length:=by lia
  haveI gk:d.V[k.toNat]? =some d.V[k.toNat]:=jy hk;refine p.rep.jF (.list (aW [d.V[0],d.V[k.toNat]])) (by show 2<bQ;decide) fun H1 l p1 R1 g1 z1=>?_;haveI at0:Sb (.loc d.lN) (.int 0) H (.str d.V[0]):=nB hN (by decide) (by show(d.V.map AV.str)[0]? =_;(refine aa qh ?_;refine aa g0 ?_);rfl);have atk:Sb (.loc d.lN) (.int k) H (.str d.V[k.toNat]):=nB hN (by lia) (by show(d.V.map AV.str)[k.toNat]? =_;(refine aa qh ?_;refine aa gk ?_);rfl);refine κ H1 l ([d.V[0],d.V[k.toNat]]) (Hl whole (b9 (ai (gR (dW K p.lf.l2 (by decide)) aT at0) (ai (gR (dW K p.lf.l2 (by decide)) ln atk) aq)) p1)) R1 z1 (fun h_=>no3 h_) (dO.mpr ⟨fun h=>?_,dO.mpr ⟨fun h=>(nx h),.nil⟩⟩) (fun y hy=>?_) nofun
  ·have:=(F4 p.nd).mp (bO.mp h)
   lia
  ·rcases bw.mp hy with rfl|hy
   ·exact F3 l0
   ·exact aa (bO.mp hy) (F3 hk)
 |false=>
  rw[q]at whole;refine p.rep.jF (.list (aW d.V)) (mC (by unfold aW;rw[bR];exact Nat.lt_of_le_of_lt l3 (by decide))) fun H1 l p1 R1 g1 z1=>?_;exact κ H1 l d.V (Ho whole (bI (ai (dW K p.lf.l2 (by decide)) aq) (tT (I4 hN p1)))) R1 z1 ne p.nd (fun y hy=>hy) id
theorem aad{V:List Str}{S M:List Vt}{x:Str}{k:Vt}(h:yG V S M x)(l:(S++M).length<99)(ne:k.W≠[])(nd:k.W.Nodup)(hV:∀y∈k.W,y∈V)(one:k.W.length=1→V.length=1){Γ:Prop}(κ:∀S' M' x',S'++M'=S++M++[k]→yG V S' M' x'→Γ):Γ:=by
 have len:∀{K:List Vt},K=S++M++[k]→K.length<100:=fun e=>by(refine aa e (aa bU ?_);refine aa za ?_);lia
 haveI all:∀k'∈S++M++[k],k'.W≠[]∧k'.W.Nodup∧∀y∈k'.W,y∈V:=fun k' hk=>by
  rcases dc.mp hk with hk|hk
  ·exact h.ne k' hk
  ·exact aa (bO.mp hk) ⟨ne,nd,hV⟩
 by_cases q:k.W.length=1
 ·refine eY (Of.mp (one q)) fun v JK=>?_;subst JK;have eM:M=[]:=by
   cases M with
   |nil=>rfl
   |cons m M=>
    refine vS (h.ne m (cU _ cI)) fun a b e=>?_;haveI h1:=b.length_le_of_subset (l₂:=[v]) fun y hy=>e y hy;haveI h2:=FY.mpr a;haveI:=h.more m cI;rw[za]at h1
    lia
  subst eM;have w1:∀k':Vt,k'.W≠[]→k'.W.length=1→(∀y∈k'.W,y∈[v])→k'.W=[v]:=fun k' a b e=>by
   refine eY (Of.mp b) fun w ew=>?_
   (refine aa ew (aa (bO.mp (e w (by rw[ew];exact cI))) ?_);with_reducible rfl)
  refine κ (S++[k]) ([]) v (by rw[eW,eW]) ⟨fun k' hk=>all k' (by rw[eW]at hk ⊢;exact hk),fun k' hk=>?_,fun k' hk=>(nx hk),len (by rw[eW,eW])⟩;rcases dc.mp hk with hk|hk
  ·haveI:=h.ne k' (dD _ hk);exact w1 k' this.1 (by refine aa (h.one k' hk) ?_;rfl) this.2.2
  ·exact aa (bO.mp hk) (w1 k ne q hV)
 ·refine κ S (M++[k]) x (by rw[gQ]) ⟨fun k' hk=>all k' (by rw[gQ];exact hk),h.one,fun k' hk=>?_,len (by rw[gQ])⟩;rcases dc.mp hk with hk|hk
  ·exact h.more k' hk
  ·exact aa (bO.mp hk) q
theorem br5(hj:j<90)(p:Lq Ω d j lm f H aH)(ne:d.V≠[]):Done Ω j Ys.b1 lm H:=by
 refine R0 p ne fun H1 lp W e1 R1 z1 wne wnd wV w1=>?_;refine R1.jF (.attrs []) trivial fun H2 ld p2 R2 g2 z2=>?_;refine R2.jF (.inst .dN ld) trivial fun H3 lo p3 R3 g3 z3=>?_;haveI l3:Le d.c (((d.c.up (.z lp) (lp,.list (aW W))).up (.z ld) (ld,.attrs [])).up (.z lo) (lo,.inst .dN ld)):=((jG z1).trans (jG z2)).trans (jG z3);haveI G3:eG (jc [] false) d.c (((d.c.up (.z lp) (lp,.list (aW W))).up (.z ld) (ld,.attrs [])).up (.z lo) (lo,.inst .dN ld)):=((nX z1).trans (nX z2)).trans (nX z3);haveI ho:(((d.c.up (.z lp) (lp,.list (aW W))).up (.z ld) (ld,.attrs [])).up (.z lo) (lo,.inst .dN ld)) (.z lo)=_:=up_eq;haveI hd:(((d.c.up (.z lp) (lp,.list (aW W))).up (.z ld) (ld,.attrs [])).up (.z lo) (lo,.inst .dN ld)) (.z ld)=_:=jG z3 _ _ up_eq;haveI hp:(((d.c.up (.z lp) (lp,.list (aW W))).up (.z ld) (ld,.attrs [])).up (.z lo) (lo,.inst .dN ld)) (.z lp)=_:=jG z3 _ _ (jG z2 _ _ up_eq);generalize((d.c.up (.z lp) (lp,.list (aW W))).up (.z ld) (ld,.attrs [])).up (.z lo) (lo,.inst .dN ld)=c3 at R3 l3 G3 ho hd hp;haveI kn:=Nat.lt_of_le_of_lt p.kn hj;refine VH (n:=8) (p:=lp) (t':=0) R3 (p.pr.le l3) ho (Nat.lt_trans kn (by decide)) fun H4 lt c4 e4 R4 hc4 z4=>?_;haveI K:Lk (lm.set 14 (some (.loc lp))) (uw f 14 (.loc lp)):=p.lf.k.set (by decide);haveI G4:eG (jc [12] false) c3 c4:=hc4▸(nX z4).trans (bk rfl rfl);haveI a22:=G4.k (G3.k p.ap rfl rfl) rfl rfl;haveI ht:c4 (.z lt)=some (lt,.tuple [.loc lo,.loc lp]):=by exact aa hc4 (aL up_eq rfl)
 haveI Xz:c4 (.a 12)=some (d.lK,.list (eZ (d.S++d.M)++[.loc lt])):=by exact aa hc4 up_eq
 refine R4.jM a22 rfl (.list (((d.S++d.M).map fun k=>.loc k.p)++[.loc lp])) (mC (by rw[bU,bR];exact Nat.lt_trans (Nat.succ_lt_succ kn) (by decide))) fun H5 p5 R5=>?_;haveI G5:eG (jc [12,22] false) c4 (c4.up (.a 22) (d.lZ,.list (((d.S++d.M).map fun k=>.loc k.p)++[.loc lp]))):=bk rfl rfl;haveI G:eG (jc [12,22] false) d.c (c4.up (.a 22) (d.lZ,.list (((d.S++d.M).map fun k=>.loc k.p)++[.loc lp]))):=((G3.w (by decide)).trans (G4.w (by decide))).trans G5;haveI kf:sQ (d.S++d.M++[⟨lt,lo,ld,lp,W⟩]) (c4.up (.a 22) (d.lZ,.list (((d.S++d.M).map fun k=>.loc k.p)++[.loc lp]))):=(p.pr.kf.chg G).app fun k hk=>by
  exact aa (bO.mp hk) ⟨aL ht rfl,aL (G4.2 _ _ ho) rfl,aL (G4.2 _ _ hp) rfl,aL (G4.2 _ _ hd) rfl⟩
 refine aad (k:=⟨lt,lo,ld,lp,W⟩) p.ks (Nat.lt_trans kn (by decide)) wne wnd wV w1 fun S' M' x' eK ks'=>?_;haveI hA:=R4.gM (r:=.a 22) rfl a22;rw[←eK]at kf;exact mkD (S:=S') (M:=M') (x:=x') (D:=d.D) (kvs:=d.kvs) (hs:=d.hs) (vl:=d.vl) (aA (cC e1) (aA (dM (qd (dW K p.lf.l1 (by decide)) (oq (R1.gM (r:=.a 10) rfl (aL p.pr.p rfl))) (R1.gM (r:=.a 11) rfl (aL p.pr.pa rfl)) (fun _=>rfl) (ai (bI aq (Jr (.inr rfl) p2 p3)) (ai (dW K rfl (by decide)) aq)) e4)) (aS (dM (d9 (dW K p.lf.l4 (by decide)) (gG hA rfl) (ai (dW K rfl (by decide)) aq) (ir (yW hA) p5))))))
  R5 ⟨G.k p.pr.p rfl rfl,G.k p.pr.pa rfl rfl,aL (Xz.trans (by refine aa eK ?_;delta eZ;refine aa (ic (l₁:=d.S++d.M)) ?_;rfl)) rfl,p.pr.v.imp fun _ q=>G.k q rfl rfl,⟨G.k p.pr.sv.i rfl rfl,G.k p.pr.sv.f rfl rfl⟩,kf⟩ (p.fr.chg G (j5 rfl)) p.nd p.abc p.hD p.dom ks'
  (by(refine aa eK (aa bU ?_));exact Nat.succ_le_succ p.kn) (G.k p.nm rfl rfl) (p.va.imp fun _ q=>G.k q rfl rfl) (fun y hy=>(p.vk y hy).chg G) (Nat.le_trans p.vn (Nat.mul_le_mul_left 3 (Nat.le_succ j))) (by(refine aa eK (aa (ic (l₁:=d.S++d.M)) ?_));exact up_eq) (G.k p.hd rfl rfl) (fun h hh=>(p.hh h hh).chg G) (Nat.le_succ_of_le p.hn) (G.k p.it rfl rfl) (G.k p.ar rfl rfl) K p.lf.l1 p.lf.l2 p.lf.l3 p.lf.l4 p.lf.l5
end
theorem zF{a b:Cm}{r:Ro}{p:Nat×AO}(h:∀r p,a r=some p→b r=some p):∀r' q,(a.up r p) r'=some q→(b.up r p) r'=some q:=fun r' q e=>by
 by_cases z:r'=r
 ·subst z;rw[up_eq]at e ⊢;exact e
 ·rw[aX z]at e ⊢;exact h _ _ e
noncomputable def Cm.del(c:Cm)(r:Ro):Cm:=fun r'=>if r'=r then none else c r'
theorem se{c:Cm}{r r':Ro}{p:Nat×AO}(h:c.del r r'=some p):r'≠r∧c r'=some p:=by
 unfold Cm.del at h
 split at h
 ·cases h
 ·exact⟨by assumption,h⟩
section
variable{L:DL}{V:List Str}{σ:Dz}{c:Cm}{H:Hp}{n:Nat}{u:AV}
theorem Mf{ys:List AV}(R:Rep (mix L V σ c) H)(s:Sr H u ys)(sm:ys.length<bQ){Γ:Prop}(κ:∀H' y d h t,Cl (n+1) (.glob (.cls .domain)) [u] H (.loc y) H'→Rep (mix L V σ ((((c.up (.a 25) (y,.dom ys d)).up (.a 26) (d,.attrs [(.hidden,.loc h),(.fh,.loc t)])).up (.a 27) (h,.list [])).up (.a 28) (t,.list []))) H'→Γ):Γ:=by
 refine xH (n:=n) (.a 25) (.a 26) (.a 27) (.a 28) R s sm (by decide) (by decide) (by decide) (by decide) (by decide) rfl rfl rfl rfl fun H' y d h t e R'=>?_;exact κ H' y d h t e (R'.le fun r p q=>zF (zF (zF (ny rfl))) r p (zF (zF (ny rfl)) r p (zF (ny rfl) r p (ny rfl r p q))))
theorem Rep.freeze{n l:Nat}{o:AO}(R:Rep (mix L V σ c) H)(h:c (.a n)=some (l,o)){Γ:Prop}(κ:∀c',Rep (mix L V σ c') H→eG (jc [n] false) c c'→c' (.z l)=some (l,o)→Γ):Γ:=by
 have zn:c (.z l)=none:=by
  cases q:c (.z l)with
  |none=>rfl
  |some p=>
   haveI e:p.1=l:=R.zf (show mix L V σ c (.z l)=some (p.1,p.2)from q);haveI q':c (.z l)=some (l,p.2):=by(refine aa q (ez e ?_);with_reducible rfl)
   have:=R.inj (show mix L V σ c (.z l)=some (l,p.2)from q') (show mix L V σ c (.a n)=some (l,o)from h);cases this
 have key:∀{r p},(mix L V σ ((c.del (.a n)).up (.z l) (l,o))) r=some p→(r=.z l∧p=(l,o))∨(r≠.a n∧mix L V σ c r=some p):=fun{r p} q=>by
  cases r with
  |z k=>
   change ((c.del (.a n)).up (.z l) (l,o)) (.z k)=some p at q
   by_cases e:k=l
   ·subst e;rw[up_eq]at q;cases q;exact .inl ⟨rfl,rfl⟩
   ·rw[aX (fun z=>by cases z;exact e rfl)]at q;exact .inr ⟨nofun,(se q).2⟩
  |a k=>
   change ((c.del (.a n)).up (.z l) (l,o)) (.a k)=some p at q;rw[aX (by simp)]at q;exact .inr (se q)
  |b k x=>
   change ((c.del (.a n)).up (.z l) (l,o)) (.b k x)=some p at q;rw[aX (by simp)]at q;exact .inr ⟨nofun,(se q).2⟩
  |d k i=>
   change ((c.del (.a n)).up (.z l) (l,o)) (.d k i)=some p at q;rw[aX (by simp)]at q;exact .inr ⟨nofun,(se q).2⟩
  |v x=>exact .inr ⟨nofun,q⟩
  |w x=>exact .inr ⟨nofun,q⟩
  |h x=>exact .inr ⟨nofun,q⟩
  |s x=>exact .inr ⟨nofun,q⟩
 refine κ ((c.del (.a n)).up (.z l) (l,o)) ⟨fun{r l' o'} q=>?_,fun{r r' l' n7 vX} q q'=>?_,fun{k l' o'} q=>?_⟩ ⟨fun r nz s=>?_,fun k p e=>?_⟩ up_eq
 ·rcases key q with⟨rfl,e⟩|⟨_,e⟩
  ·cases e;exact R.gM (r:=.a n) rfl h
  ·exact R.get e
 ·rcases key q with⟨rfl,e⟩|⟨n1,e⟩<;>rcases key q' with⟨rfl,e'⟩|⟨n2,e'⟩
  ·rfl
  ·cases e;exact absurd (R.inj e' (show mix L V σ c (.a n)=some (l,o)from h)) n2
  ·cases e';exact absurd (R.inj e (show mix L V σ c (.a n)=some (l,o)from h)) n1
  ·exact R.inj e e'
 ·rcases key q with⟨e1,e⟩|⟨_,e⟩
  ·cases e;cases e1;rfl
  ·exact R.zf e
 ·refine aa (aX (fun e=>by rw[e]at nz;cases nz)) ?_;exact au fun e=>by rw[e]at s;unfold jc at s;simp at s
 ·refine aa (aX (fun e'=>by cases e';rw[zn]at e;cases e)) ?_;exact(au nofun).trans e
end
inductive Wj(c:Cm)(gv:List Int)(tv:AV):Prop
 |mk (y e:Nat) (q:tv=.loc y) (h:c (.a 25)=some (y,.dom (aO gv) e))
theorem Wj.chg{S:Ro→Bool}{c c':Cm}{gv:List Int}{tv:AV}(h:Wj c gv tv)(G:eG S c c')(s:S (.a 25)=false):Wj c' gv tv:=by
 cases h with
 |mk y e q h=>exact⟨y,e,q,G.k h rfl s⟩
section
variable{Ω:Lc}{j:Nat}{d:Sd}{aH:Qd}{lm:LM}{f:Nat→Option AV}{H:Hp}
noncomputable abbrev NS:E:=.sub (.list (.cons (.var 11) (.cons (.call (.lit (.glob .tuple)) (.cons (.var 11) .nil)) (.cons (.call (.lit (.glob (.cls .domain))) (.cons (.var 11) .nil)) (.cons (.var 11) .nil))))) (.var 7)
theorem Lq.mv{l:List Nat}{c':Cm}{H':Hp}(p:Lq Ω d j lm f H aH)(R:Rep (mix d.L d.V d.σ c') H')(G:eG (jc l false) d.c c')(k:(l.all fun n=> !XF.contains n)=true)(k3:l.contains 23=false)(k4:l.contains 24=false){Γ:Prop}(κ:∀d',Lq Ω d' j lm f H' aH→d'.c=c'→d'.V=d.V→Γ):Γ:=
 p.toLb.chg R p.dom G k (Nat.le_refl _) k3 fun d' b' s=>κ d' {b' with lf:=s.lf p.lf,l7:=p.l7,l8:=p.l8,l9:=p.l9,yr:=p.yr,g:=by refine aa s.c ?_;exact G.k p.g rfl k4,gl:=p.gl,gn:=p.gn,ab:=p.ab} s.c s.V
theorem Se(p:Lq Ω d j lm f H aH)(hk:0≤aH.kind∧aH.kind<4){Γ:Prop}(κ:∀d' H' tv,Ev 9 NS lm H tv H'→Lq Ω d' j lm f H' aH→Sr H' tv (aO aH.gv)→(aH.kind=2→Wj d'.c aH.gv tv)→Γ):Γ:=by
 have K:=p.lf.k;have sm:(aO aH.gv).length<bQ:=by rw[fR];exact Nat.lt_of_le_of_lt p.gl (by decide)
 refine p.rep.jF (.tuple (aO aH.gv)) sm fun H1 t p1 R1 g1 z1=>?_;have hG:=p.rep.gM rfl p.g;refine Mf (n:=8) R1 (.l aH.lG rfl (g1 hG)) sm fun H2 y e h u e2 R2=>?_;have G:eG (jc [25,26,27,28] false) d.c (((((d.c.up (.z t) (t,.tuple (aO aH.gv))).up (.a 25) (y,.dom (aO aH.gv) e)).up (.a 26) (e,.attrs [(.hidden,.loc h),(.fh,.loc u)])).up (.a 27) (h,.list [])).up (.a 28) (u,.list [])):=(((eG.trans (nX z1) (bk rfl rfl)).trans (bk rfl rfl)).trans (bk rfl rfl)).trans (bk rfl rfl);haveI ht:(((((d.c.up (.z t) (t,.tuple (aO aH.gv))).up (.a 25) (y,.dom (aO aH.gv) e)).up (.a 26) (e,.attrs [(.hidden,.loc h),(.fh,.loc u)])).up (.a 27) (h,.list [])).up (.a 28) (u,.list [])) (.z t)=_:=aL (aL (aL (aL up_eq rfl) rfl) rfl) rfl;haveI hy:(((((d.c.up (.z t) (t,.tuple (aO aH.gv))).up (.a 25) (y,.dom (aO aH.gv) e)).up (.a 26) (e,.attrs [(.hidden,.loc h),(.fh,.loc u)])).up (.a 27) (h,.list [])).up (.a 28) (u,.list [])) (.a 25)=_:=aL (aL (aL up_eq rfl) rfl) rfl;generalize((((d.c.up (.z t) (t,.tuple (aO aH.gv))).up (.a 25) (y,.dom (aO aH.gv) e)).up (.a 26) (e,.attrs [(.hidden,.loc h),(.fh,.loc u)])).up (.a 27) (h,.list [])).up (.a 28) (u,.list [])=c1 at R2 G ht hy;refine R2.tmp (.list [.loc aH.lG,.loc t,.loc y,.loc aH.lG]) (by decide:4<bQ) fun H3 l p3 R3 g3 h3 _=>?_;haveI ls:CF 9 (.cons (.var 11) (.cons (.call (.lit (.glob .tuple)) (.cons (.var 11) .nil)) (.cons (.call (.lit (.glob (.cls .domain))) (.cons (.var 11) .nil)) (.cons (.var 11) .nil)))) lm H [.loc aH.lG,.loc t,.loc y,.loc aH.lG] H2:=
  ai (dW K p.yr (by decide)) (ai (bI (ai (dW K p.yr (by decide)) aq) (Vg hG p1)) (ai (bI (ai (dW K p.yr (by decide)) aq) e2) (ai (dW K p.yr (by decide)) aq)))
 have fin:∀tv k,aH.kind=k→([.loc aH.lG,.loc t,.loc y,.loc aH.lG]:List AV)[k.toNat]? =some tv→Sr H3 tv (aO aH.gv)→(k=2→Wj c1 aH.gv tv)→Γ:=fun tv k e q s w=>p.mv (l:=[25,26,27,28]) R3 G rfl rfl rfl fun d' p' hc _=>κ d' H3 tv (gR (b9 ls p3) (dW K p.l7 (by decide)) (nB h3 hk.1 (e▸q))) p' s (hc▸e▸w);rcases(by lia:aH.kind=0∨aH.kind=1∨aH.kind=2∨aH.kind=3)with h|h|h|h
 ·exact fin _ _ h rfl (.l aH.lG rfl (R3.gM rfl (G.k p.g rfl rfl))) nofun
 ·exact fin _ _ h rfl (.t t rfl (R3.gM rfl ht)) nofun
 ·exact fin _ _ h rfl (.d y e rfl (R3.gM rfl hy)) fun _=>⟨y,e,rfl,hy⟩
 ·exact fin _ _ h rfl (.l aH.lG rfl (R3.gM rfl (G.k p.g rfl rfl))) nofun
end
theorem sf{k k':Str}{v:AV}:∀{kvs:List (AV×AV)},dJ (.str k) (dput (.str k') v kvs)=if k'=k then some v else dJ (.str k) kvs:=by
 intro rv
 induction rv with
 |nil=>
  show(if AV.str k'=.str k then some v else none)=_
  by_cases e:k'=k
  ·(refine aa (aF (aR _ e)) (aa (aF e) ?_);with_reducible rfl)
  ·(refine aa (au (fun q=>e (AV.str.inj q))) (aa (au e) ?_));rfl
 |cons p_ kvs ih=>
  obtain⟨a,b⟩:=p_;show dJ (.str k) (if a=.str k' then(a,v)::kvs else(a,b)::dput (.str k') v kvs)=if k'=k then some v else if a=.str k then some b else dJ (.str k) kvs
  by_cases e:a=.str k'
  ·(refine aa (aF e) (aa e ?_))
   show(if AV.str k'=.str k then some v else dJ (.str k) kvs)=_
   by_cases z:k'=k
   ·(refine aa (aF (aR _ z)) (aa (aF z) ?_);with_reducible rfl)
   ·(refine aa (au (fun q=>z (AV.str.inj q))) (aa (au z) ?_);refine aa (au (fun q=>z (AV.str.inj q))) ?_;with_reducible rfl)
  ·refine aa (au e) ?_;show(if a=.str k then some b else dJ (.str k) (dput (.str k') v kvs))=_
   refine aa ih ?_
   by_cases z:k'=k
   ·(refine aa (au (fun q=>e (by rw[q,z]))) (aa (aF z) ?_);refine aa (aF z) ?_;with_reducible rfl)
   ·(refine aa (au z) (aa (au z) ?_);with_reducible rfl)
theorem JG{k v:AV}:∀{kvs:List (AV×AV)},(dput k v kvs).length≤kvs.length+1:=by
 intro rv
 induction rv with
 |nil=>
  exact Nat.le_refl _
 |cons p_ kvs ih=>
  obtain⟨a,b⟩:=p_;unfold dput
  split
  ·exact Nat.le_succ _
  ·exact Nat.succ_le_succ ih
section
variable{Ω:Lc}{j:Nat}{d:Sd}{aH:Qd}{lm:LM}{f:Nat→Option AV}{H:Hp}
theorem acM{tv:AV}(b:Lb Ω d (j+1) H)(lf:Lf d lm f)(hn:d.hs.length≤j)(hj:j<90)(l7:f 7=some (.int aH.kind))(yr:f 11=some (.loc aH.lG))(Ti:f 12=some tv)(g:d.c (.a 24)=some (aH.lG,.list (aO aH.gv)))(gl:aH.gv.length≤2)(hy:aH.kind=2→Wj d.c aH.gv tv):Done Ω j lwI.b1.tl.tl.tl.tl.tl lm H:=by
 haveI K:=lf.k;haveI hG:=b.rep.gM rfl g;haveI ce:∀q:Int,Te 9 (.cmp .eq (.var 7) (.lit (.int q))) lm H (decide (aH.kind=q)) H:=fun q=>bA (dW K l7 (by decide)) aT (gh gT)
 by_cases q2:aH.kind=2
 ·haveI t2:=ce 2;rw[bN q2]at t2;cases hy q2 with
  |mk y e et hy2=>
   rw[et]at Ti;refine b.rep.jF (.list (aO aH.gv)) (dH (Nat.lt_of_le_of_lt gl (by decide))) fun H1 lb p1 R1 g1 z1=>?_;refine R1.jF (.tuple [.loc y,.loc lb]) (by decide:2<bQ) fun H2 lt p2 R2 g2 z2=>?_;haveI h23:=b.rep.gM rfl b.hd;haveI ln:(d.hs++[lt]).length≤j+1:=by exact aa bU (Nat.succ_le_succ hn)
   refine R2.jM (r:=.a 23) (aL (aL b.hd rfl) rfl) rfl (.list ((d.hs++[lt]).map AV.loc)) (mC (by rw[bR];exact Nat.lt_of_le_of_lt ln (Nat.lt_trans (Nat.succ_lt_succ hj) (by decide)))) fun H3 p3 R3=>?_;haveI G3:eG (jc [23,25] false) d.c (((d.c.up (.z lb) (lb,.list (aO aH.gv))).up (.z lt) (lt,.tuple [.loc y,.loc lb])).up (.a 23) (d.Ah,.list ((d.hs++[lt]).map AV.loc))):=((nX z1).trans (nX z2)).trans (bk rfl rfl);haveI a25:=G3.2;refine R3.freeze (n:=25) (aL (aL (aL hy2 rfl) rfl) rfl) fun c4 R4 G4 hz=>?_;refine b.acK (l:=[23,25]) (hs:=d.hs++[lt]) R4 b.dom (G3.trans (G4.w (by decide))) rfl (Nat.le_refl _) (G4.k up_eq rfl rfl) (fun h hh=>(dc.mp hh).elim (fun hh=>(b.hh h hh).chg (G3.trans (G4.w (by decide)))) fun hh=>by
    exact aa (bO.mp hh) ⟨y,lb,e,aH.gv,G4.2 _ _ (aL up_eq rfl),hz,G4.2 _ _ (aL (jG z2 _ _ up_eq) rfl),Nat.lt_of_le_of_lt gl (by decide)⟩) ln fun d' b' s=>?_
   refine⟨d',lm,f,H3,aS (cV t2 (aS (dM (d9 (dW K lf.l5 (by decide)) (gG h23 rfl) (ai (oR (ai (dW K Ti (by decide)) (ai (bI (ai (dW K yr (by decide)) aq) (tT (I4 hG p1))) aq)) p2) aq) (ir (yW (g2 (g1 h23))) ?_))))),b',s.lf lf⟩;rw[ic]at p3;exact p3
 ·haveI t2:=ce 2;rw[bP q2]at t2;haveI t3:=ce 3
  by_cases q3:aH.kind=3
  ·rw[bN q3]at t3;refine b.rep.jM g rfl (.list (aO aH.gv++[.int 9])) (mC (by rw[bU,fR];exact Nat.lt_of_le_of_lt (Nat.succ_le_succ gl) (by decide))) fun H1 p1 R1=>?_;exact b.chg (l:=[24]) R1 b.dom (bk rfl rfl) rfl (Nat.le_refl _) rfl fun d' b' s=>⟨d',lm,f,H1,aS (bF t2 (aS (cV t3 (aS (dM (d9 (dW K yr (by decide)) (gG hG rfl) (ai aT aq) (ir (yW hG) p1))))))),b',s.lf lf⟩
  ·rw[bP q3]at t3;exact⟨d,lm,f,H,aS (bF t2 (aS (bF t3 bD))),b,lf⟩
end
theorem abE{H:Hp}{s t:Str}(h:s≠t):Rc 3 H (.str s) (.str t) (!true):=by
 haveI q:=GO (k:=3) (H:=H) (i:=s) (j:=t)
 rwa [bP h]at q
section
variable{Ω:Lc}{j:Nat}{d:Sd}{aH:Qd}{lm:LM}{f:Nat→Option AV}{H:Hp}
theorem aae{H1 H2 H3:Hp}{tv:AV}{L':DL}{ep:Nat}(hj:j<90)(p:Lq Ω d j lm f H1 aH)(e1:Ev 9 NS lm H tv H1)(hy:aH.kind=2→Wj d.c aH.gv tv)(q:aH.nm∉d.V)(z:aH.gv≠[])
  (t1:Te 9 (.or (.cmp .EE (.var 9) (.var 2)) (.cmp .eq (.var 11) (.list .nil))) ((lm.set 12 (some tv)).set 13 (some (.str (av "added")))) H1 false H2) (ad:Cf 9 .jk [.loc d.lP,.str aH.nm,tv] H2 (.str Qq) H3) (R3:Rep (mix L' (d.V++[aH.nm]) (d.σ.add aH.nm aH.gv) (d.c.up (.a 13) (d.lV,.dict (bW L' (d.V++[aH.nm])) ep))) H3):Done Ω j lwI.b1 lm H:=by
 haveI K1:=(p.lf.set (i:=12) (v:=tv) (by decide) (by decide)).set (i:=13) (v:=.str (av "added")) (by decide) (by decide);haveI l3:=Nat.lt_succ_of_le (rR p.nd p.abc);haveI n3:(d.c.up (.a 13) (d.lV,.dict (bW L' (d.V++[aH.nm])) ep)) (.a 20)=_:=aL p.nm rfl;refine p.va.elim fun IV Xn=>R3.jM n3 rfl (.list (aW (d.V++[aH.nm]))) (mC (by delta aW;rw[bR,bU];exact Nat.lt_trans (Nat.succ_lt_succ l3) (by decide))) fun H4 p4 R4=>?_;refine R4.jF (.list (aO aH.gv)) (dH (Nat.lt_of_le_of_lt p.gl (by decide))) fun H5 ln p5 R5 g5 z5=>?_;haveI v5:(((d.c.up (.a 13) (d.lV,.dict (bW L' (d.V++[aH.nm])) ep)).up (.a 20) (d.lN,.list (aW (d.V++[aH.nm])))).up (.z ln) (ln,.list (aO aH.gv))) (.a 21)=_:=aL (aL (aL Xn rfl) rfl) rfl;haveI vn:(dput (.str aH.nm) (.loc ln) d.kvs).length≤3*(j+1):=Nat.le_trans JG (Nat.le_trans (Nat.succ_le_succ p.vn) (Nat.add_le_add_left (by decide:1≤3) (3*j)));refine R5.jM v5 rfl (.dict (dput (.str aH.nm) (.loc ln) d.kvs) (if(dJ (.str aH.nm) d.kvs).isSome then IV else IV+1)) (Nat.lt_of_le_of_lt vn (Nat.lt_of_le_of_lt (Nat.mul_le_mul_left 3 (Nat.succ_le_of_lt hj)) (by decide))) fun H6 p6 R6=>?_
 haveI hG4:=R4.gM (r:=.a 24) rfl (aL (aL p.g rfl) rfl);haveI p6':=J8 (R5.gM rfl v5) (u:=.str aH.nm) rfl p6;haveI G:eG (jc [13,20,21] false) d.c ((((d.c.up (.a 13) (d.lV,.dict (bW L' (d.V++[aH.nm])) ep)).up (.a 20) (d.lN,.list (aW (d.V++[aH.nm])))).up (.z ln) (ln,.list (aO aH.gv))).up (.a 21) (d.iJ,.dict (dput (.str aH.nm) (.loc ln) d.kvs) (if(dJ (.str aH.nm) d.kvs).isSome then IV else IV+1))):=((eG.trans (bk rfl rfl) (bk rfl rfl)).trans (nX z5)).trans (bk rfl rfl)
 haveI Wf:((((d.c.up (.a 13) (d.lV,.dict (bW L' (d.V++[aH.nm])) ep)).up (.a 20) (d.lN,.list (aW (d.V++[aH.nm])))).up (.z ln) (ln,.list (aO aH.gv))).up (.a 21) (d.iJ,.dict (dput (.str aH.nm) (.loc ln) d.kvs) (if(dJ (.str aH.nm) d.kvs).isSome then IV else IV+1))) (.a 13)=_:=aL (aL (aL up_eq rfl) rfl) rfl
 haveI E0:((((d.c.up (.a 13) (d.lV,.dict (bW L' (d.V++[aH.nm])) ep)).up (.a 20) (d.lN,.list (aW (d.V++[aH.nm])))).up (.z ln) (ln,.list (aO aH.gv))).up (.a 21) (d.iJ,.dict (dput (.str aH.nm) (.loc ln) d.kvs) (if(dJ (.str aH.nm) d.kvs).isSome then IV else IV+1))) (.a 20)=_:=aL (aL up_eq rfl) rfl
 haveI h21:((((d.c.up (.a 13) (d.lV,.dict (bW L' (d.V++[aH.nm])) ep)).up (.a 20) (d.lN,.list (aW (d.V++[aH.nm])))).up (.z ln) (ln,.list (aO aH.gv))).up (.a 21) (d.iJ,.dict (dput (.str aH.nm) (.loc ln) d.kvs) (if(dJ (.str aH.nm) d.kvs).isSome then IV else IV+1))) (.a 21)=_:=up_eq
 haveI hz:((((d.c.up (.a 13) (d.lV,.dict (bW L' (d.V++[aH.nm])) ep)).up (.a 20) (d.lN,.list (aW (d.V++[aH.nm])))).up (.z ln) (ln,.list (aO aH.gv))).up (.a 21) (d.iJ,.dict (dput (.str aH.nm) (.loc ln) d.kvs) (if(dJ (.str aH.nm) d.kvs).isSome then IV else IV+1))) (.z ln)=_:=aL up_eq rfl
 generalize(((d.c.up (.a 13) (d.lV,.dict (bW L' (d.V++[aH.nm])) ep)).up (.a 20) (d.lN,.list (aW (d.V++[aH.nm])))).up (.z ln) (ln,.list (aO aH.gv))).up (.a 21) (d.iJ,.dict (dput (.str aH.nm) (.loc ln) d.kvs) (if(dJ (.str aH.nm) d.kvs).isSome then IV else IV+1))=c6 at R6 G Wf E0 h21 hz
 haveI hN3:=R3.gM rfl n3;haveI p4':Pt d.lN (.list (aW d.V++[.str aH.nm])) H3 H4:=by delta aW at p4 ⊢;rw[ic]at p4;exact p4
 haveI old:∀{w},w∈d.V++[aH.nm]→w≠aH.nm→w∈d.V:=fun hw e=>(dc.mp hw).resolve_right fun h=>e (bO.mp h);refine mkL (Ω:=Ω) (j:=j+1) (D:=fset d.D aH.nm aH.gv) (S:=d.S) (M:=d.M) (x:=d.x) (kvs:=dput (.str aH.nm) (.loc ln) d.kvs) (hs:=d.hs) (vl:=fset d.vl aH.nm ln) R6
  ⟨G.k p.pr.p rfl rfl,G.k p.pr.pa rfl rfl,G.k p.pr.k rfl rfl,⟨ep,Wf⟩,⟨G.k p.pr.sv.i rfl rfl,G.k p.pr.sv.f rfl rfl⟩,p.pr.kf.chg G⟩ (p.fr.chg G (j5 rfl))
  (oH.mpr ⟨p.nd,dO.mpr ⟨fun h=>(nx h),.nil⟩,fun a ha b hb e=>q (by(refine ez (bO.mp hb) (ez e ?_));exact ha)⟩) (fun w hw=>(dc.mp hw).elim (p.abc w) fun h=>by exact aa (bO.mp h) p.ab)
  (fun w hw=>by
   by_cases e:w=aH.nm
   ·(refine aa e (aa aU ?_));exact⟨p.gl,p.gn,z⟩
   ·exact aa (aP e) (p.hD w (old hw e)))
  (z9 p.dom) ⟨fun k hk=>⟨(p.ks.ne k hk).1,(p.ks.ne k hk).2.1,fun w hw=>dD _ ((p.ks.ne k hk).2.2 w hw)⟩,p.ks.one,p.ks.more,p.ks.len⟩ (Nat.le_succ_of_le p.kn) E0 ⟨_,h21⟩
  (fun w hw=>by
   by_cases e:w=aH.nm
   ·exact aa e ⟨by(refine aa aU (aa sf ?_);refine aa (aF rfl) ?_;with_reducible rfl),by(refine aa aU (aa aU ?_));exact hz⟩
   ·exact⟨by(refine aa (aP e) (aa sf ?_);refine aa (au (dg e)) ?_);exact(p.vk w (old hw e)).g,by(refine aa (aP e) (aa (aP e) ?_));exact G.2 _ _ (p.vk w (old hw e)).z⟩)
  vn (G.k p.ap rfl rfl) (G.k p.hd rfl rfl) (fun h hh=>(p.hh h hh).chg G) (Nat.le_succ_of_le p.hn) (G.k p.it rfl rfl) (G.k p.ar rfl rfl) K1.k K1.l1 K1.l2 K1.l3 K1.l4 K1.l5 fun d' b' JX ec eh=>?_
 cases acM (tv:=tv) b' JX (eh▸p.hn) hj p.l7 p.yr rfl (ec▸G.k p.g rfl rfl) p.gl (fun q=>ec▸(hy q).chg G rfl)with
 |mk d'' aI f' H' q1 q2 q3=>
  refine⟨d'',aI,f',H',aA (cC e1) (aA (cC aT) (aA (bF t1 bD) ?_)),q2,q3⟩;refine aA (bF (bA (bI (ai (dW K1.k K1.l1 (by decide)) (ai (dW K1.k p.l9 (by decide)) (ai (dW K1.k rfl (by decide)) aq))) (E4 ad)) (dW K1.k rfl (by decide)) (iN Dh)) bD) ?_;refine aA (cV (bA (dW K1.k rfl (by decide)) aT (gh Dh)) ?_) q1;refine aA (dM (d9 (dW K1.k K1.l2 (by decide)) (gG hN3 rfl) (ai (dW K1.k p.l9 (by decide)) aq) (ir (yW hN3) p4'))) ?_;exact aS (zA (bI (ai (dW K1.k p.yr (by decide)) aq) (tT (I4 hG4 p5))) (dW K1.k K1.l3 (by decide)) (dW K1.k p.l9 (by decide)) p6')
theorem JH{H1 H3 H4:Hp}{tv:AV}(hj:j<90)(p:Lq Ω d j lm f H1 aH)(e1:Ev 9 NS lm H tv H1)(hy:aH.kind=2→Wj d.c aH.gv tv)(R4:Rep (mix d.L d.V d.σ d.c) H4)
  (tt:Te 9 (.or (.cmp .EE (.var 9) (.var 2)) (.cmp .eq (.var 11) (.list .nil))) ((lm.set 12 (some tv)).set 13 (some (.str (av "added")))) H1 true H3) (ad:Cf 9 .jk [.loc d.lP,.str aH.nm,tv] H3 (.str xm) H4):Done Ω j lwI.b1 lm H:=by
 have K2:=((p.lf.set (i:=12) (v:=tv) (by decide) (by decide)).set (i:=13) (v:=.str (av "added")) (by decide) (by decide)).set (i:=13) (v:=.str (av "value")) (by decide) (by decide);cases acM (tv:=tv) (Lb.succ {p.toLb with rep:=R4}) K2 p.hn hj p.l7 p.yr rfl p.g p.gl hy with
 |mk d'' aI f' H' q1 q2 q3=>
  refine⟨d'',aI,f',H',aA (cC e1) (aA (cC aT) (aA (cV tt (aS (cC aT))) ?_)),q2,q3⟩;refine aA (bF (bA (bI (ai (dW K2.k K2.l1 (by decide)) (ai (dW K2.k p.l9 (by decide)) (ai (dW K2.k rfl (by decide)) aq))) (E4 ad)) (dW K2.k rfl (by decide)) (iN Dh)) bD) ?_;exact aA (bF (bA (dW K2.k rfl (by decide)) aT (gh (abE (by decide)))) bD) q1
theorem brA(hj:j<90)(p:Lq Ω d j lm f H aH)(hk:0≤aH.kind∧aH.kind<4):Done Ω j lwI.b1 lm H:=by
 refine Se p hk fun d H1 tv e1 p src hy=>?_;haveI K1:=(p.lf.set (i:=12) (v:=tv) (by decide) (by decide)).set (i:=13) (v:=.str (av "added")) (by decide) (by decide);have ti:Te 9 (.cmp .EE (.var 9) (.var 2)) ((lm.set 12 (some tv)).set 13 (some (.str (av "added")))) H1 (decide (aH.nm∈d.V)) H1:=bA (dW K1.k p.l9 (by decide)) (dW K1.k p.lf.l2 (by decide)) (nR (xP p.toLb))
 by_cases q:aH.nm∈d.V
 ·rw[bN q]at ti;exact JH hj p e1 hy p.rep (Ng ti) (vM (s:=xm) p.rep p.pr (r9 (n:=7) p.rep p.pr p.ab q) (.inl ⟨rfl,rfl⟩))
 ·rw[bP q]at ti;refine p.rep.tmp (.list []) (by decide:0<bQ) fun H2 t2 p2 R2 g2 h2 _=>?_;have te:Te 9 (.cmp .eq (.var 11) (.list .nil)) ((lm.set 12 (some tv)).set 13 (some (.str (av "added")))) H1 (decide (aO aH.gv=[])) H2:=bA (dW K1.k p.yr (by decide)) (b9 aq p2) (gh (iU (n:=2) (g2 (p.rep.gM rfl p.g)) h2))
  by_cases z:aH.gv=[]
  ·haveI acN:=src.gr g2;rw[z]at acN;refine z8 (n:=5) R2 p.pr q acN fun H3 x3 R3=>?_;rw[bN (show aO aH.gv=[] by rw[z];rfl)]at te;exact JH hj p e1 hy R3 (zy ti te) (vM (s:=xm) R2 p.pr x3 (.inl ⟨rfl,rfl⟩))
  ·rw[bP (fun w:aO aH.gv=[]=>z (qg.mp w))]at te;exact JF (n:=5) R2 p.pr q (src.gr g2) z (Nat.lt_of_le_of_lt p.gl (by decide)) (Nat.lt_of_le_of_lt (rR p.nd p.abc) (by decide)) fun H3 L' ep x3 R3=>aae hj p e1 hy q z (zy ti te) (RQ R2 p.pr x3) R3
end
noncomputable def jb:List Str→List Str→List Str×Bool
 |_,[]=>([],true)
 |V,w::r=>if w∈V then([],false)else(w::(jb (V++[w]) r).1,(jb (V++[w]) r).2)
theorem I5{V r:List Str}{w:Str}(h:w∈V):jb V (w::r)=([],false):=aF h
theorem I6{V r:List Str}{w:Str}(h:w∉V):jb V (w::r)=(w::(jb (V++[w]) r).1,(jb (V++[w]) r).2):=au h
theorem yb:∀{ws V:List Str},lF V ws=(V++(jb V ws).1,(jb V ws).2)
 |[],V=>by delta lF jb;rw[eW]
 |w::ws,V=>by
  by_cases h:w∈V
  ·rw[I5 h,eW];exact aF h
  ·rw[I6 h];refine(au h).trans ?_;rw[yb,gQ];rfl
noncomputable def idxs(n k:Nat):List AV:=(List.range' n k).map fun(i:Nat)=>AV.int (i:Int)
section
variable{n:Nat}{L:DL}{V:List Str}{σ:Dz}{c:Cm}{H:Hp}{lm:LM}{f:Nat→Option AV}{lN vO lr:Nat}{cD:Hp→Prop}{o35:AO}
noncomputable abbrev mB:SL:=uY.b1.tl.tl.hd.b1
structure M7(lN lr vO:Nat)(o35:AO)(V Pr:List Str)(c:Cm):Prop where
 SW:c (.a 35)=some (lr,o35)
 yt:c (.a 34)=some (vO,.list (aW Pr))
 E0:c (.a 20)=some (lN,.list (aW V))
structure KM(lN vO:Nat)(lm:LM)(f:Nat→Option AV):Prop where
 k:Lk lm f
 CA:f 16=some (.loc vO)
 IW:f 17=some (.bool false)
 k2:f 2=some (.loc lN)
theorem abF{P:List Str}{w:Str}{r:List Str}(R:Rep (mix L V σ c) H)(yt:c (.a 34)=some (vO,.list (aW (P++w::r))))(K:Lk lm f)(CA:f 16=some (.loc vO))(k18:f 18=some (.int (P.length:Int))):Ev n (.sub (.var 16) (.var 18)) lm H (.str w) H:=
 gR (dW K CA (by decide)) (dW K k18 (by decide)) (nB (R.gM rfl yt) (Int.natCast_nonneg _) (by
  rw[Int.toNat_natCast];unfold aW;rw[ic,FT (by rw[bR];exact Nat.le_refl _),bR,Nat.sub_self];rfl))
theorem acO{P r:List Str}(R:Rep (mix L V σ c) H)(yt:c (.a 34)=some (vO,.list (aW (P++r))))(K:Lk lm f)(CA:f 16=some (.loc vO))(k18:f 18=some (.int (P.length:Int))){H':Hp}{v:AV}(p:Pu (.list (aW P)) H v H'):Ev n (.upTo (.var 16) (.var 18)) lm H v H':=
 P4 (dW K CA (by decide)) (dW K k18 (by decide)) (Int.natCast_nonneg _) (BI (R.gM rfl yt)) (by
  refine aa (show(aW (P++r)).take ((P.length:Int)).toNat=aW P by rw[Int.toNat_natCast];unfold aW;rw[←AQ,Ox]) ?_;exact p)
theorem aep{P:List Str}{w:Str}{r:List Str}(R:Rep (mix L V σ c) H)(yt:c (.a 34)=some (vO,.list (aW (P++w::r))))(E0:c (.a 20)=some (lN,.list (aW V)))(K:Lk lm f)(k2:f 2=some (.loc lN))(CA:f 16=some (.loc vO))(k18:f 18=some (.int (P.length:Int)))(sm:small (.list (aW P))){Γ:Prop}
  (κ:∀H1,Te n (.or (.cmp .EE (.sub (.var 16) (.var 18)) (.var 2)) (.cmp .EE (.sub (.var 16) (.var 18)) (.upTo (.var 16) (.var 18)))) lm H (decide (w∈V++P)) H1→Rep (mix L V σ c) H1→Γ):Γ:=by
 have it:=abF (n:=n) R yt K CA k18;have t1:Te n (.cmp .EE (.sub (.var 16) (.var 18)) (.var 2)) lm H (decide (w∈V)) H:=bA it (dW K k2 (by decide)) (nR (in_list (R.gM rfl E0) BK))
 by_cases q:w∈V
 ·rw[bN q]at t1;rw[bN (dD P q)]at κ;exact κ H (Ng t1) R
 ·rw[bP q]at t1;refine R.tmp (.list (aW P)) sm fun H1 t p1 R1 g1 h1 _=>κ H1 (zy t1 (bA it (acO R yt K CA k18 p1) ?_)) R1;haveI:=in_list (u:=.str w) h1 BK;rw[nj.mpr (show w∈P↔w∈V++P by rw[dc,or_iff_right q])]at this;exact nR this
theorem Sf(bZ:∀{c H},Rep (mix L V σ c) H→c (.a 35)=some (lr,o35)→cD H){Γ:Prop}{r:List Str}:∀{P:List Str}{c:Cm}{H:Hp}{lm:LM}{f:Nat→Option AV},Rep (mix L V σ c) H→M7 lN lr vO o35 V (P++r) c→KM lN vO lm f→P.length+r.length<900→
  (∀aI f' H' l' c',Tn (fS n mB) (.one 18) cD (idxs P.length r.length) lm H (if(jb (V++P) r).2 then none else some .next) aI H'→Rep (mix L V σ c') H'→eG (jc [34] false) c c'→c' (.a 34)=some (l',.list (aW (P++(jb (V++P) r).1)))→Lk aI f'→f' 16=some (.loc l')→f' 17=some (.bool (!(jb (V++P) r).2))→(∀i,i<16→f' i=f i)→Γ)→Γ:=by
 induction r with
 |nil=>exact fun{P c H lm f} R h K sP κ=>κ lm f H vO c .nil R .refl h.yt K.k K.CA K.IW fun _ _=>rfl
 |cons w r ih=>
  intro P c H lm f R h K sP κ;haveI K1:Lk (lm.set 18 (some (.int (P.length:Int)))) (uw f 18 (.int (P.length:Int))):=K.k.set (by decide);haveI sm:small (.list (aW P)):=mC (by delta aW;rw[bR];exact Nat.lt_trans (MX sP) (by decide));rw[show idxs P.length (w::r).length=.int (P.length:Int)::idxs (P.length+1) r.length from rfl,show jb (V++P) (w::r)=if w∈V++P then([],false)else(w::(jb (V++P++[w]) r).1,(jb (V++P++[w]) r).2)from rfl]at κ
  refine aep (n:=n) R h.yt h.E0 K1 K.k2 K.CA rfl sm fun H1 tt R1=>?_
  by_cases q:w∈V++P
  ·rw[aF q]at κ;rw[bN q]at tt;refine R1.fY (.a 34) rfl (.list (aW P)) sm fun H2 l' p2 R2 g2=>?_;exact κ _ _ H2 l' _ (Hy fM (aJ (cV tt (aA (cC (acO R1 h.yt K1 K.CA rfl p2)) (aA (cC aT) (aJ Dd rfl)))) rfl)) R2 (bk rfl rfl) (by rw[eW];exact up_eq) ((K1.set (i:=16) (v:=.loc l') (by decide)).set (i:=17) (v:=.bool true) (by decide)) rfl rfl fun i hi=>
    (au (Nat.ne_of_lt (Nat.lt_trans hi (by decide)))).trans ((au (Nat.ne_of_lt hi)).trans (au (Nat.ne_of_lt (Nat.lt_trans hi (by decide)))))
  ·rw[au q]at κ;rw[bP q]at tt;haveI e1:P++w::r=(P++[w])++r:=by rw[gQ];rfl
   refine ih (P:=P++[w]) R1 (e1▸h) ⟨K1,K.CA,K.IW,K.k2⟩ (Dg sP) fun aI f' H' l' c' a b g h' k f16 f17 fi=>?_;rw[bU,za,←gQ]at a;rw[←gQ]at h' f17;exact κ aI f' H' l' c' (dm fM (aS (bF tt bD)) (bZ R1 h.SW) a) b g (by rw[h',gQ];rfl) k f16 f17 fun i hi=>(fi i hi).trans (au (Nat.ne_of_lt (Nat.lt_trans hi (by decide))))
end
section
variable{n:Nat}{L:DL}{V:List Str}{σ:Dz}{c:Cm}{H:Hp}{lm:LM}{f:Nat→Option AV}{lN iJ lG vO:Nat}{cD:Hp→Prop}{gv:List Int}{o34:AO}
noncomputable abbrev cdM:E:=.cmp .ne (.var 11) (.list .nil)
theorem neG(K:Lk lm f)(SX:f 11=some (.loc lG))(R:Rep (mix L V σ c) H)(g:c (.a 24)=some (lG,.list (aO gv))){Γ:Prop}(κ:∀H',Te n cdM lm H (decide (gv≠[])) H'→Rep (mix L V σ c) H'→Γ):Γ:=by
 refine R.tmp (.list []) (by decide:0<bQ) fun H1 t p1 R1 g1 h1 _=>?_;haveI e:=iU (n:=2) (g1 (R.gM rfl g)) h1;refine κ H1 (bA (dW K SX (by decide)) (b9 aq p1) (iN ?_)) R1;haveI q:decide (aO gv=[])= !(decide (gv≠[])):=by
  rw[←decide_not,nj];exact⟨fun h z=>z (qg.mp h),fun h=>by
   rw[Classical.not_not]at h;refine aa h ?_;rfl⟩
 exact q▸e
theorem eqG(K:Lk lm f)(SX:f 11=some (.loc lG))(R:Rep (mix L V σ c) H)(g:c (.a 24)=some (lG,.list (aO gv))){Γ:Prop}(κ:∀H',Te n (.cmp .eq (.var 11) (.list .nil)) lm H (decide (gv=[])) H'→Rep (mix L V σ c) H'→Γ):Γ:=by
 refine R.tmp (.list []) (by decide:0<bQ) fun H1 t p1 R1 g1 h1 _=>?_;haveI e:=iU (n:=2) (g1 (R.gM rfl g)) h1;refine κ H1 (bA (dW K SX (by decide)) (b9 aq p1) (gh ?_)) R1;exact(nj.mpr ⟨fun h=>qg.mp h,fun h=>by refine aa h ?_;rfl⟩:decide (aO gv=[])=decide (gv=[]))▸e
theorem abG(K:Lk lm f)(SX:f 11=some (.loc lG))(g:c (.a 24)=some (lG,.list (aO gv)))(bZ:∀{H},Rep (mix L V σ c) H→cD H){Γ:Prop}{W:List Str}:∀{H:Hp},Rep (mix L V σ c) H→(∀H',Mi (ku n cdM (.var 15) lm 15) cD (aW W) H (aW (if gv=[]then []else W)) H'→Rep (mix L V σ c) H'→Γ)→Γ:=by
 induction W with
 |nil=>exact fun{H} R κ=>κ H (by refine aa (show(if gv=[]then([]:List Str)else [])=[] by split<;>rfl) ?_;exact .nil) R
 |cons w W ih=>
  intro H R κ;haveI K1:Lk (lm.set 15 (some (.str w))) (uw f 15 (.str w)):=K.set (by decide);refine neG (n:=n) K1 SX R g fun H1 t1 R1=>ih R1 fun H2 a R2=>κ H2 ?_ R2
  by_cases z:gv=[]
  ·rw[aF z]at a ⊢;rw[bP (fun h=>h z)]at t1;exact cR (MJ t1) (bZ R1) a
  ·rw[au z]at a ⊢;rw[bN z]at t1;exact cR (cIT t1 (dW K1 rfl (by decide))) (bZ R1) a
structure V7(lN iJ lG vO:Nat)(gv:List Int)(o34:AO)(W:List Str)(kvs:List (AV×AV))(ep:Nat)(c:Cm):Prop where
 E0:c (.a 20)=some (lN,.list (aW W))
 h21:c (.a 21)=some (iJ,.dict kvs ep)
 h24:c (.a 24)=some (lG,.list (aO gv))
 yt:c (.a 34)=some (vO,o34)
structure KV(lN iJ lG:Nat)(lm:LM)(f:Nat→Option AV):Prop where
 k:Lk lm f
 k2:f 2=some (.loc lN)
 k3:f 3=some (.loc iJ)
 SX:f 11=some (.loc lG)
theorem Sg(bZ:∀{c H},Rep (mix L V σ c) H→c (.a 34)=some (vO,o34)→cD H)(gl:gv.length<900){Γ:Prop}{p:List Str}:∀{W:List Str}{kvs:List (AV×AV)}{vl:Str→Nat}{ep:Nat}{c:Cm}{H:Hp}{lm:LM}{f:Nat→Option AV},Rep (mix L V σ c) H→V7 lN iJ lG vO gv o34 W kvs ep c→KV lN iJ lG lm f→W.length+p.length<900→kvs.length+p.length<900→
  (∀(aI:LM)(f':Nat→Option AV)(H':Hp)(c':Cm)(Kg:List (AV×AV))(Cz:Str→Nat)(yp:Nat),Tn (fS n uY.b1.tl.tl.tl.tl.hd.b1) (.one 19) cD (aW p) lm H none aI H'→Rep (mix L V σ c') H'→eG (jc [20,21] false) c c'→c' (.a 20)=some (lN,.list (aW (W++p)))→c' (.a 21)=some (iJ,.dict Kg yp)→Lk aI f'→(∀i,i<16→f' i=f i)→Kg.length≤kvs.length+p.length→(∀y,y∉p→dJ (.str y) Kg=dJ (.str y) kvs∧Cz y=vl y)→(∀y∈p,dJ (.str y) Kg=some (.loc (Cz y))∧c' (.z (Cz y))=some (Cz y,.list (aO gv)))→Γ)→Γ:=by
 induction p with
 |nil=>exact fun{W kvs vl ep c H lm f} R h K s1 s2 κ=>κ lm f H c kvs vl ep .nil R .refl (by rw[eW];exact h.E0) h.h21 K.k (fun _ _=>rfl) (Nat.le_refl _) (fun y _=>⟨rfl,rfl⟩) fun y hy=>(nx hy)
 |cons w p ih=>
  intro W kvs vl ep c H lm f R h K s1 s2 κ;haveI K1:Lk (lm.set 19 (some (.str w))) (uw f 19 (.str w)):=K.k.set (by decide);refine R.jM h.E0 rfl (.list (aW (W++[w]))) (mC (by unfold aW;rw[bR,bU];exact Nat.succ_lt_succ (MX s1))) fun H1 p1 R1=>?_;haveI p1':Pt lN (.list (aW W++[.str w])) H H1:=by unfold aW at p1 ⊢;rw[ic]at p1;exact p1
  haveI hN:=R.gM rfl h.E0;refine R1.jF (.list (aO gv)) (dH (mq (Nat.lt_trans gl (by decide)))) fun H2 ln p2 R2 g2 z2=>?_;have v2:((c.up (.a 20) (lN,.list (aW (W++[w])))).up (.z ln) (ln,.list (aO gv))) (.a 21)=_:=aL (aL h.h21 rfl) rfl;have lp:(dput (.str w) (.loc ln) kvs).length+p.length≤kvs.length+(p.length+1):=by rw[←Nat.add_assoc,Nat.add_right_comm];exact Nat.add_le_add_right (JG (k:=.str w) (v:=.loc ln) (kvs:=kvs)) _
  refine R2.jM v2 rfl (.dict (dput (.str w) (.loc ln) kvs) (if(dJ (.str w) kvs).isSome then ep else ep+1)) (mq (Nat.lt_trans (MX (Nat.lt_of_le_of_lt lp s2)) (by decide))) fun H3 p3 R3=>?_
  haveI G:eG (jc [20,21] false) c (((c.up (.a 20) (lN,.list (aW (W++[w])))).up (.z ln) (ln,.list (aO gv))).up (.a 21) (iJ,.dict (dput (.str w) (.loc ln) kvs) (if(dJ (.str w) kvs).isSome then ep else ep+1))):=(eG.trans (bk rfl rfl) (nX z2)).trans (bk rfl rfl)
  refine ih (W:=W++[w]) (vl:=fset vl w ln) R3 ⟨aL (aL up_eq rfl) rfl,up_eq,G.k h.h24 rfl rfl,G.k h.yt rfl rfl⟩ ⟨K1,K.k2,K.k3,K.SX⟩ (Dg s1) (Nat.lt_of_le_of_lt lp s2) fun aI f' H' c' Kg Cz yp e1 e2 e3 e4 e5 e6 e7 e8 e9 e10=>?_;refine κ aI f' H' c' Kg Cz yp (dm fM (aA (dM (d9 (dW K1 K.k2 (by decide)) (gG hN rfl) (ai (dW K1 rfl (by decide)) aq) (ir (yW hN) p1'))) (aS (zA (bI (ai (dW K1 K.SX (by decide)) aq) (tT (I4 (R1.gM rfl (aL h.h24 rfl)) p2))) (dW K1 K.k3 (by decide)) (dW K1 rfl (by decide)) (J8 (R2.gM rfl v2) rfl p3)))) (bZ R3 (G.k h.yt rfl rfl)) e1) e2 (G.trans e3) (by rw[gQ]at e4;exact e4) e5 e6 (fun i hi=>(e7 i hi).trans (au (Nat.ne_of_lt (Nat.lt_trans hi (by decide))))) (Nat.le_trans e8 lp) (fun y hy=>?_) fun y hy=>?_
  ·have n1:y≠w:=fun q=>hy (q▸cI);have a:=e9 y fun q=>hy (cZ _ q)
   (refine aa a.1 (aa a.2 ?_);refine aa (aP n1) (aa sf ?_);refine aa (au (dg n1)) ?_)
   exact⟨rfl,rfl⟩
  ·by_cases q:y∈p
   ·exact e10 y q
   ·have a:=e9 y q
    (refine aa a.1 (aa a.2 ?_);refine aa ((bw.mp hy).resolve_right q) (aa aU ?_);refine aa sf (aa (aF rfl) ?_))
    exact⟨rfl,e3.2 _ _ (aL up_eq rfl)⟩
end
theorem qM:∀{ws V:List Str}{y:Str},y∈(jb V ws).1→y∉V∧y∈ws
 |[],V,y,h=>(nomatch h)
 |w::ws,V,y,h=>by
  by_cases q:w∈V
  ·rw[I5 q]at h;exact(nomatch h)
  ·rw[I6 q]at h;rcases bw.mp h with rfl|h
   ·exact⟨q,cI⟩
   ·refine iK (qM h) fun a b=>?_;exact⟨fun z=>a (dD _ z),cZ _ b⟩
theorem yc:∀{ws V:List Str},V.Nodup→(V++(jb V ws).1).Nodup
 |[],V,h=>by delta jb;rw[eW];exact h
 |w::ws,V,h=>by
  by_cases q:w∈V
  ·rw[I5 q,eW];exact h
  ·refine aa (I6 q) ?_;haveI:=yc (ws:=ws) (V:=V++[w]) (oH.mpr ⟨h,dO.mpr ⟨fun h=>(nomatch h),.nil⟩,fun a ha b hb e=>q (by(refine ez (bO.mp hb) (ez e ?_));exact ha)⟩);rw[gQ]at this;exact this
theorem D5:∀{ws V:List Str},(jb V ws).1.length≤ws.length
 |[],V=>Nat.le_refl _
 |w::ws,V=>by
  by_cases q:w∈V
  ·exact aa (I5 q) (Nat.zero_le _)
  ·exact aa (I6 q) (Nat.succ_le_succ D5)
theorem HE{H:Hp}{l n:Nat}(h:H[l]? =some (.pX 0 (n:Int))):Wk H l (idxs 0 n):=.pX 0 n h (by
 unfold idxs;rw[Int.sub_zero,Int.toNat_natCast,List.range_eq_range'];exact wg fun i _=>by rw[Int.zero_add])
section
variable{Ω:Lc}{j:Nat}{d:Sd}{aH:Qd}{lm:LM}{f:Nat→Option AV}{H:Hp}
theorem Lq.mvf{aI:LM}{f':Nat→Option AV}(p:Lq Ω d j lm f H aH)(K:Lk aI f')(kf:∀i,i<16→f' i=f i):Lq Ω d j aI f' H aH:=
 {p with lf:=⟨K,(kf 1 (by decide)).trans p.lf.l1,(kf 2 (by decide)).trans p.lf.l2,(kf 3 (by decide)).trans p.lf.l3,(kf 4 (by decide)).trans p.lf.l4,(kf 5 (by decide)).trans p.lf.l5⟩,l7:=(kf 7 (by decide)).trans p.l7,l8:=(kf 8 (by decide)).trans p.l8,l9:=(kf 9 (by decide)).trans p.l9,yr:=(kf 11 (by decide)).trans p.yr}
theorem abH(p:Lq Ω d j lm f H aH)(W0:List Str)(e0:W0=if aH.gv=[]then []else [sc,aH.nm,sa]){Γ:Prop}
  (κ:∀d' aI f' H' l',(∀{fl oQ uW},fS 9 uY.b1.tl.tl.tl aI H' fl oQ uW→fS 9 uY.b1 lm H fl oQ uW)→Lq Ω d' j aI f' H' aH→d'.c (.a 34)=some (l',.list (aW (jb d'.V W0).1))→f' 16=some (.loc l')→f' 17=some (.bool (!(jb d'.V W0).2))→Γ):Γ:=by
 have K:=p.lf.k;refine p.rep.fY (.a 36) rfl (.list (aW [sc,aH.nm,sa])) (by show 3<bQ;decide) fun H1 l36 p1 R1 g1=>?_;haveI h36:=R1.gM (r:=.a 36) rfl up_eq;refine abG (n:=9) (cD:=gW H1 l36) K p.yr (aL p.g rfl) (fun R=>bq h36 (R.gM (r:=.a 36) rfl up_eq) rfl) (W:=[sc,aH.nm,sa]) R1 fun H2 a2 R2=>?_;rw[←e0]at a2;have l0:W0.length≤3:=by
  refine aa e0 ?_;split
  ·exact Nat.zero_le _
  ·exact Nat.le_refl 3
 refine R2.fY (.a 34) rfl (.list (aW W0)) (mC (by unfold aW;rw[bR];exact Nat.lt_of_le_of_lt l0 (by decide))) fun H3 JY p3 R3 g3=>?_;haveI hm:=R3.gM (r:=.a 34) rfl up_eq;refine R3.fY (.a 35) rfl (.pX 0 (W0.length:Int)) ⟨by decide,by decide,by lia,by lia⟩ fun H4 l35 p4 R4 g4=>?_;have SW:=R4.gM (r:=.a 35) rfl up_eq;haveI K2:Lk ((lm.set 16 (some (.loc JY))).set 17 (some (.bool false))) (uw (uw f 16 (.loc JY)) 17 (.bool false)):=(K.set (by decide)).set (by decide);haveI pX:Ev 9 (.call (.lit (.glob .range)) (.cons (.call (.lit (.glob .len)) (.cons (.var 16) .nil)) .nil)) ((lm.set 16 (some (.loc JY))).set 17 (some (.bool false))) H3 (.loc l35) H4:=bI (ai (bI (ai (dW K2 rfl (by decide)) aq) (rC (pS hm))) aq) (by exact aa (show(aW W0).length=W0.length from bR _) (D4 p4));refine Sf (n:=9) (lN:=d.lN) (cD:=gW H4 l35) (fun R h=>bq SW (R.gM rfl h) rfl) (r:=W0) (P:=[]) R4 ⟨up_eq,aL up_eq rfl,aL (aL (aL p.nm rfl) rfl) rfl⟩ ⟨K2,rfl,rfl,p.lf.l2⟩ (by rw[AK,Nat.zero_add];exact Nat.lt_of_le_of_lt l0 (by decide)) fun aI f' H' l' c' m1 m2 m3 m4 m5 m6 m7 m8=>?_;rw[eW]at m1 m4 m7;haveI aeq:En 9 uY.b1.tl.tl.hd ((lm.set 16 (some (.loc JY))).set 17 (some (.bool false))) H3 .next aI H':=by
  cases q:(jb d.V W0).2 with
  |true=>rw[q]at m1;exact gS pX (HE SW) m1 bD
  |false=>rw[q]at m1;exact qF pX (HE SW) m1
 refine p.mv (l:=[34,35,36]) m2 ((eG.trans (eG.trans (bk rfl rfl) (bk rfl rfl)) (bk rfl rfl)).trans (m3.w (by decide))) rfl rfl rfl fun d' p' hc hV=>?_;rw[←hV]at m4 m7;exact κ d' aI f' H' l' (fun z=>aA (rZ (b9 (ai aT (ai (dW K p.l9 (by decide)) (ai aT aq))) p1) (bL h36) a2 p3) (aA (cC aT) (aA aeq z)))
  (p'.mvf m5 fun i hi=>(m8 i hi).trans ((au (Nat.ne_of_lt (Nat.lt_succ_of_lt hi))).trans (au (Nat.ne_of_lt hi)))) (hc▸m4) m6 m7
theorem ab3{nm:Str}(h:Abc nm):∀w∈[sc,nm,sa],Abc w:=fun w hw=>by
 rcases bw.mp hw with e|hw
 ·exact .inr (.inr e)
 ·rcases bw.mp hw with e|hw
  ·exact aa e h
  ·exact .inl (bO.mp hw)
theorem W4{H':Hp}{yw:Nat}(p:Lq Ω d j lm f H aH)(p2:Pu (.list (aW [sc,aH.nm,sa])) H (.loc yw) H'):CF 9 (.cons (.list (.cons (.lit (.str (av "c"))) (.cons (.var 9) (.cons (.lit (.str (av "a"))) .nil)))) (.cons (.var 11) .nil)) lm H [.loc yw,.loc aH.lG] H':=
 ai (b9 (ai aT (ai (dW p.lf.k p.l9 (by decide)) (ai aT aq))) p2) (ai (dW p.lf.k p.yr (by decide)) aq)
theorem Sh{JY:Nat}(p:Lq Ω d j lm f H aH)(z:aH.gv=[])(yt:d.c (.a 34)=some (JY,.list []))(CA:f 16=some (.loc JY))(IW:f 17=some (.bool false)):Done Ω j uY.b1.tl.tl.tl lm H:=by
 haveI K:=p.lf.k;refine p.rep.fY (.a 29) rfl (.list (aW [sc,aH.nm,sa])) (by show 3<bQ;decide) fun H2 yw p2 R2 g2=>?_;haveI ML:=R2.gM (r:=.a 29) rfl up_eq;haveI G2:eG (jc [29] false) d.c (d.c.up (.a 29) (yw,.list (aW [sc,aH.nm,sa]))):=bk rfl rfl;haveI pr2:=p.pr.chg G2 (j5 rfl);have g24:=G2.k p.g rfl rfl;have fin:∀{H3},JL 8 .cz [.loc d.lP,.str sc,.loc aH.lG] H2 .value H3→Rep (mix d.L d.V d.σ (d.c.up (.a 29) (yw,.list (aW [sc,aH.nm,sa])))) H3→Done Ω j uY.b1.tl.tl.tl lm H:=fun{H3} x3 R3=>by
  haveI call:JL 9 .dY [.loc d.lP,.loc yw,.loc aH.lG] H2 .value H3:=wC (aI:=[some (.loc d.lP),some (.loc yw),some (.loc aH.lG),some (.str sc)]) rfl rfl (aJ (qF (aj rfl) (bL ML) (Ql fM (aJ (jt (qm (aj rfl) (oq (R2.gM rfl pr2.p)) (R2.gM rfl pr2.pa) (fun _=>rfl) (ai (aj rfl) (ai (aj rfl) aq)) x3)) rfl))) rfl);refine neG (n:=9) K p.yr R3 g24 fun H4 t4 R4=>?_;rw[bP (fun h=>h z)]at t4;exact p.toLb.chg R4 p.dom G2 rfl (Nat.le_succ j) rfl fun d' b' s=>⟨d',lm,f,H4,aA (zB (aJ (jt (qm (dW K p.lf.l1 (by decide)) (oq (p.rep.gM rfl p.pr.p)) (p.rep.gM rfl p.pr.pa) (fun _=>rfl) (W4 p p2) call)) rfl) (J6 (aS (bF (ly (gu (t_v K IW (by decide) eT)) t4) bD)))) (aS (gS (dW K CA (by decide)) (bL (R4.gM rfl (G2.k yt rfl rfl))) .nil bD)),b',s.lf p.lf⟩
 by_cases q:sc∈d.V
 ·exact fin (r9 (n:=7) R2 pr2 (.inr (.inr rfl)) q) R2
 ·exact z8 (n:=5) R2 pr2 q (.l aH.lG rfl (by haveI:=R2.gM rfl g24;rw[z]at this;exact this)) fun H3 x R3=>fin x R3
theorem abI{H1 H2 H3:Hp}{yw lP dP:Nat}{u3:Option AV}{b:Bool}{L:DL}{V:List Str}{σ:Dz}{c:Cm}(K:Lk lm f)(k1:f 1=some (.loc lP))(SX:f 11=some (.loc aH.lG))(IW:f 17=some (.bool (!b)))(pP:H1[lP]? =some (.inst .problem dP))(pA:∃fs,H1[dP]? =some (.attrs fs))(args:CF 9 (.cons (.list (.cons (.lit (.str (av "c"))) (.cons (.var 9) (.cons (.lit (.str (av "a"))) .nil)))) (.cons (.var 11) .nil)) lm H1 [.loc yw,.loc aH.lG] H2)(ML:H2[yw]? =some (.list (aW [sc,aH.nm,sa])))
  (a3:Tn (fS 8 jR.hd.b1) (.one 3) (gW H2 yw) (aW [sc,aH.nm,sa]) (lmV lP yw (.loc aH.lG) none) H2 (if b then none else some (.exc .value)) (lmV lP yw (.loc aH.lG) u3) H3) (R3:Rep (mix L V σ c) H3) (g:c (.a 24)=some (aH.lG,.list (aO aH.gv))) (z:aH.gv≠[]) {Γ:Prop} (κ:∀H4,En 9 uY.b1.tl.tl.tl.hd lm H1 .next lm H4→Rep (mix L V σ c) H4→Γ):Γ:=by
 refine pA.elim fun fs pA=>?_;cases b with
 |true=>
  have call:Cf 9 .dY [.loc lP,.loc yw,.loc aH.lG] H2 .none H3:=iB rfl rfl (aS (gS (aj rfl) (bL ML) a3 bD));refine eqG (n:=9) K SX R3 g fun H4 t4 R4=>?_;rw[bP z]at t4;exact κ H4 (WG (aA (dM (qd (dW K k1 (by decide)) (oq pP) pA (fun _=>rfl) args call)) (aS (bF (zy (t_v K IW (by decide) eT) t4) bD))) rfl) R4
 |false=>
  haveI call:JL 9 .dY [.loc lP,.loc yw,.loc aH.lG] H2 .value H3:=wC rfl rfl (aJ (qF (aj rfl) (bL ML) a3) rfl);exact κ H3 (zB (aJ (jt (qm (dW K k1 (by decide)) (oq pP) pA (fun _=>rfl) args call)) rfl) (J6 (aS (bF (nv (gu (t_v K IW (by decide) eT))) bD)))) R3
theorem Sj{JY:Nat}(hj:j<90)(p:Lq Ω d j lm f H aH)(z:aH.gv≠[])(yt:d.c (.a 34)=some (JY,.list (aW (jb d.V [sc,aH.nm,sa]).1)))(CA:f 16=some (.loc JY))(IW:f 17=some (.bool (!(jb d.V [sc,aH.nm,sa]).2))):Done Ω j uY.b1.tl.tl.tl lm H:=by
 haveI K:=p.lf.k;haveI l3:=rR p.nd p.abc;refine p.rep.fY (.a 29) rfl (.list (aW [sc,aH.nm,sa])) (by show 3<bQ;decide) fun H2 yw p2 R2 g2=>?_;haveI ML:=R2.gM (r:=.a 29) rfl up_eq;haveI G2:eG (jc [29] false) d.c (d.c.up (.a 29) (yw,.list (aW [sc,aH.nm,sa]))):=bk rfl rfl;haveI g24:=G2.k p.g rfl rfl;refine Iz (n:=5) (c0:=d.c.up (.a 29) (yw,.list (aW [sc,aH.nm,sa]))) (u:=.loc aH.lG) (X:=aW [sc,aH.nm,sa]) (lw:=yw) (cD:=gW H2 yw) z (Nat.lt_of_le_of_lt p.gl (by decide)) (fun R h=>.l aH.lG rfl (R.gM rfl (h.trans g24))) (fun R h=>bq ML (R.gM rfl h) rfl) (ws:=[sc,aH.nm,sa]) (u3:=none) R2 (p.pr.chg G2 (j5 rfl)) p.dom rfl up_eq (ab3 p.ab) (Nat.lt_of_le_of_lt (Nat.add_le_add_right l3 3) (by decide)) fun u3 H3 L3 σ3 D3 c3 a3 R3 Tj dk3 ge3 dd3=>?_;rw[yb]at a3 R3 Tj dk3 dd3;dsimp only at a3 R3 Tj dk3 dd3;haveI G3:eG (jc [13] false) (d.c.up (.a 29) (yw,.list (aW [sc,aH.nm,sa]))) c3:=⟨fun r _ s=>ge3 r (fun e=>by rw[e]at s;cases s),fun l q e=>(ge3 (.z l) nofun).trans e⟩;have G23:eG (jc [13,29] false) d.c c3:=(G2.w (by decide)).trans (G3.w (by decide));refine abI K p.lf.l1 p.yr IW (p.rep.gM rfl p.pr.p) ⟨_,p.rep.gM rfl p.pr.pa⟩ (W4 p p2) ML a3 R3 (G23.k p.g rfl rfl) z fun H4 aer R4=>?_;haveI acP:=G23.k yt rfl rfl;have hm:=R4.gM rfl acP;haveI len:(jb d.V [sc,aH.nm,sa]).1.length≤3:=D5 (ws:=[sc,aH.nm,sa]) (V:=d.V);haveI vl3:d.kvs.length+(jb d.V [sc,aH.nm,sa]).1.length≤3*(j+1):=Nat.add_le_add p.vn len;refine p.va.elim fun aeO Xn=>Sg (n:=9) (lN:=d.lN) (iJ:=d.iJ) (lG:=aH.lG) (vO:=JY) (cD:=gW H4 JY) (gv:=aH.gv) (fun R h=>bq hm (R.gM rfl h) rfl) (Nat.lt_of_le_of_lt p.gl (by decide)) (p:=(jb d.V [sc,aH.nm,sa]).1) (W:=d.V) (vl:=d.vl) R4 ⟨G23.k p.nm rfl rfl,G23.k Xn rfl rfl,G23.k p.g rfl rfl,acP⟩ ⟨K,p.lf.l2,p.lf.l3,p.yr⟩ (Nat.lt_of_le_of_lt (Nat.add_le_add l3 len) (by decide)) (Nat.lt_of_le_of_lt vl3 (Nat.lt_of_le_of_lt (Nat.mul_le_mul_left 3 (Nat.succ_le_of_lt hj)) (by decide))) fun lm5 f5 H5 c5 aes vl5 ep5 q1 q2 q3 q4 q5 q6 q7 q8 q9 q10=>?_;have G:eG (jc [13,20,21,29] false) d.c c5:=(G23.w (by decide)).trans (q3.w (by decide));have fr:∀{y},y∈d.V→y∉(jb d.V [sc,aH.nm,sa]).1:=fun a h=>(qM h).1 a;exact mkD (S:=d.S) (M:=d.M) (x:=d.x) (D:=D3) (kvs:=aes) (hs:=d.hs) (vl:=vl5) (aA aer (aS (gS (dW K CA (by decide)) (bL hm) q1 bD))) q2
  (Tj.chg q3 (j5 rfl)) (p.fr.chg G (j5 rfl)) (yc p.nd) (fun y hy=>(dc.mp hy).elim (p.abc y) fun h=>ab3 p.ab y (qM h).2)
  (fun y hy=>by
   cases dd3 y hy with
   |o a b=>exact aa b (p.hD y a)
   |n a b=>exact aa b ⟨p.gl,p.gn,z⟩)
  dk3 ⟨fun k hk=>⟨(p.ks.ne k hk).1,(p.ks.ne k hk).2.1,fun w hw=>dD _ ((p.ks.ne k hk).2.2 w hw)⟩,p.ks.one,p.ks.more,p.ks.len⟩ (Nat.le_succ_of_le p.kn) q4 ⟨_,q5⟩
  (fun y hy=>by
   cases dd3 y hy with
   |o a b=>exact⟨by(refine aa ((q9 y (fr a)).1) (aa ((q9 y (fr a)).2) ?_));exact(p.vk y a).g,by(refine aa ((q9 y (fr a)).2) (aa b ?_));exact G.2 _ _ (p.vk y a).z⟩
   |n a b=>exact⟨(q10 y ((dc.mp hy).resolve_left a)).1,by exact aa b ((q10 y ((dc.mp hy).resolve_left a)).2)⟩)
  (Nat.le_trans q8 vl3) (G.k p.ap rfl rfl) (G.k p.hd rfl rfl) (fun h hh=>(p.hh h hh).chg G) (Nat.le_succ_of_le p.hn) (G.k p.it rfl rfl) (G.k p.ar rfl rfl) q6 ((q7 1 (by decide)).trans p.lf.l1) ((q7 2 (by decide)).trans p.lf.l2) ((q7 3 (by decide)).trans p.lf.l3) ((q7 4 (by decide)).trans p.lf.l4) ((q7 5 (by decide)).trans p.lf.l5)
theorem br8(hj:j<90)(p:Lq Ω d j lm f H aH):Done Ω j uY.b1 lm H:=by
 refine abH p _ rfl fun d iZ f1 H1 JY x1 p yt CA IW=>?_;have fin:Done Ω j uY.b1.tl.tl.tl iZ H1→Done Ω j uY.b1 lm H:=fun h=>by
  cases h with
  |mk d' aI f' H' e b l=>exact⟨d',aI,f',H',x1 e,b,l⟩
 by_cases z:aH.gv=[]
 ·rw[aF z]at yt IW;exact fin (Sh p z yt CA IW)
 ·rw[au z]at yt IW;exact fin (Sj hj p z yt CA IW)
end
section
variable{L:DL}{V:List Str}{D:Str→List Int}{σ:Dz}{c:Cm}{H H0:Hp}{lm:LM}{f:Nat→Option AV}{cD:Hp→Prop}{N lN:Nat}
def Below(L:DL)(V:List Str)(σ:Dz)(c:Cm)(N:Nat):Prop:=∀r p,r.nz=true→mix L V σ c r=some p→p.1<N
theorem below(R:Rep (mix L V σ c) H):Below L V σ c H.length:=fun r p _ h=>R.lt (l:=p.1) (o:=p.2) h
theorem Rep.Yt{l:Nat}{o:AO}(R:Rep (mix L V σ c) H)(B:Below L V σ c N)(hN:N≤l)(h:H[l]? =some o){Γ:Prop}(κ:∀c',Rep (mix L V σ c') H→eG (jc [] false) c c'→Below L V σ c' N→c' (.z l)=some (l,o)→Γ):Γ:=by
 have key:∀{r p},mix L V σ (c.up (.z l) (l,o)) r=some p→(r=.z l∧p=(l,o))∨(r≠.z l∧mix L V σ c r=some p):=fun{r p} q=>by
  by_cases e:r=.z l
  ·subst e;haveI q':(c.up (.z l) (l,o)) (.z l)=some p:=q;rw[up_eq]at q';cases q';exact .inl ⟨rfl,rfl⟩
  ·refine .inr ⟨e,?_⟩;haveI:=ny (L:=L) (V:=V) (σ:=σ) (c:=c) (r:=.z l) (p:=(l,o)) rfl r p q
   rwa [aX e]at this
 have no:∀{r p},r≠.z l→mix L V σ c r=some p→p.1≠l:=fun{r p} ne q e=>by
  cases r with
  |z k=>exact ne (by exact ez e (aR Ro.z (R.zf (l:=p.1) (o:=p.2) q).symm))
  |_=>exact absurd (B _ p rfl q) (by exact aa e (Nat.not_lt.mpr hN))
 refine κ (c.up (.z l) (l,o)) ⟨fun{r l' o'} q=>?_,fun{r r' l' n7 vX} q q'=>?_,fun{k l' o'} q=>?_⟩ ⟨fun r nz _=>aX (fun e=>by rw[e]at nz;cases nz),fun k p e=>?_⟩ (fun r p nz q=>?_) up_eq
 ·rcases key q with⟨rfl,e⟩|⟨_,e⟩
  ·cases e;exact h
  ·exact R.get e
 ·rcases key q with⟨rfl,e⟩|⟨n1,e⟩<;>rcases key q' with⟨rfl,e'⟩|⟨n2,e'⟩
  ·rfl
  ·cases e;exact absurd rfl (no n2 e')
  ·cases e';exact absurd rfl (no n1 e)
  ·exact R.inj e e'
 ·rcases key q with⟨e1,e⟩|⟨_,e⟩
  ·cases e;cases e1;rfl
  ·exact R.zf e
 ·by_cases e':Ro.z k=.z l
  ·cases e';haveI e1:p.1=l:=R.zf (show mix L V σ c (.z l)=some (p.1,p.2)from e);haveI e2:=R.get (r:=.z l) (l:=p.1) (o:=p.2) e;rw[e1,h]at e2;haveI:p=(l,o):=by
    obtain⟨a,b⟩:=p;cases e1;cases e2;rfl
   (refine aa up_eq (aa this ?_);with_reducible rfl)
  ·exact aa (aX e') e
 ·rcases key q with⟨rfl,_⟩|⟨_,e⟩
  ·cases nz
  ·exact B r p nz e
theorem VU{Γ:Prop}{Z:Mz}:∀{c:Cm},Rep (mix L V σ c) H→Below L V σ c N→iP Z H→(∀z∈Z,N≤z.1)→(∀c',Rep (mix L V σ c') H→eG (jc [] false) c c'→(∀z∈Z,c' (.z z.1)=some (z.1,.list (aO z.2)))→Γ)→Γ:=by
 induction Z with
 |nil=>exact fun{c} R B _ _ κ=>κ c R .refl fun z hz=>(nx hz)
 |cons z Z ih=>
  exact fun{c} R B h n κ=>R.Yt B (n z cI) (h z cI) fun c1 R1 G1 B1 e1=>ih R1 B1 (fun w hw=>h w (cZ _ hw)) (fun w hw=>n w (cZ _ hw)) fun c' R2 G2 k=>κ c' R2 (G1.trans G2) fun w hw=>(bw.mp hw).elim (fun e=>by exact aa e (G2.2 _ _ e1)) (k w)
theorem abJ{n l:Nat}{ss:List Str}(h:H[l]? =some (.list (aW ss)))(nd:ss.Nodup)(sm:ss.length<64){Γ:Prop}(κ:∀H' r,Cl n (.glob .sorted) [(.loc l)] H (.loc r) H'→Gw H H'→H'[r]? =some (.list (aW (cJ strLt ss)))→Γ):Γ:=by
 refine uX H (.list (aW (cJ strLt ss))) (mC (by delta aW;rw[bR,(cj _).length_eq];exact Nat.lt_trans sm (by decide))) fun H1 r p g hr=>?_;haveI Xw:Cl n (.glob .sorted) [.loc l] H (.loc r) H1:=p.e fun s=>U5 h nd sm s;exact κ H1 r Xw g hr
theorem abK{n l ep:Nat}{A:List (Str×Int)}(h:H[l]? =some (.dict (dh A) ep))(nd:(A.map (·.1)).Nodup)(sm:A.length<64){Γ:Prop}(κ:∀H' r,Cl n (.glob .sorted) [(.loc l)] H (.loc r) H'→Gw H H'→H'[r]? =some (.list (aW (cJ strLt (A.map (·.1)))))→Γ):Γ:=by
 refine uX H (.list (aW (cJ strLt (A.map (·.1))))) (mC (by delta aW;rw[bR,(cj _).length_eq,bR];exact Nat.lt_trans sm (by decide))) fun H1 r p g hr=>?_;haveI ek:(dh A).map (·.1)=(A.map (·.1)).map AV.str:=by delta dh;(refine aa iM (aa iM ?_));rfl
 haveI Xw:Cl n (.glob .sorted) [.loc l] H (.loc r) H1:=p.e fun s=>U7 h ek nd (by rw[bR];exact sm) s;exact κ H1 r Xw g hr
theorem xQ{n:Nat}{v w:AV}{H1:Hp}(h:Cl n (.glob .sorted) [v] H w H1):Cl n (.glob .sorted) [v] H w H1:=h
noncomputable abbrev cd7:E:=.cmp .ne (.call (.lit (.glob .sorted)) (.cons (.var 21) .nil)) (.call (.lit (.glob .sorted)) (.cons (.var 2) .nil))
theorem Sl{n:Nat}(K:Lk lm f)(k2:f 2=some (.loc lN))(E0:c (.a 20)=some (lN,.list (aW V)))(nd:V.Nodup)(nV:V.length<60)(bZ:∀{H},Rep (mix L V σ c) H→cD H){Γ:Prop}{Z:Zs}:∀{H:Hp},Rep (mix L V σ c) H→ZC Z c→(∀z∈Z,(z.2.map (·.1)).Perm V)→(∀H',Mi (ku n cd7 (.var 21) lm 21) cD (Z.map fun p=>.loc p.1) H [] H'→Rep (mix L V σ c) H'→Γ)→Γ:=by
 induction Z with
 |nil=>exact fun{H} R _ _ κ=>κ H .nil R
 |cons z Z ih=>
  intro H R zc zp κ;haveI K1:Lk (lm.set 21 (some (.loc z.1))) (uw f 21 (.loc z.1)):=K.set (by decide);haveI p:=zp z cI;haveI lz:z.2.length<64:=by(refine ez (bR (f:=(·.1))) (aa p.length_eq ?_));exact Nat.lt_trans nV (by decide)
  refine abK (n:=n) (R.gM rfl (zc z cI)) (p.nodup_iff.mpr nd) lz fun H1 r1 e1 g1 h1=>?_;haveI R1:=Rep.gr R g1;refine abJ (n:=n) (R1.gM rfl E0) nd (Nat.lt_trans nV (by decide)) fun H2 r2 e2 g2 h2=>?_;haveI R2:=Rep.gr R1 g2;haveI t:Te n cd7 (lm.set 21 (some (.loc z.1))) H false H2:=bA (bI (ai (dW K1 rfl (by decide)) aq) (xQ e1)) (bI (ai (dW K1 k2 (by decide)) aq) (xQ e2)) (iN (RU (n:=2) (g2.ap h1) h2 (IB (p.nodup_iff.mpr nd) p)));exact ih R2 (fun w hw=>zc w (cZ _ hw)) (fun w hw=>zp w (cZ _ hw)) fun H3 a R3=>κ H3 (cR (MJ t) (bZ R2) a) R3
theorem JI{n i j l ep:Nat}{A:List (Str×Int)}{W:List Str}(K:Lk lm f)(ki:f i=some (.loc l))(hi:i<28)(hj:j<28)(ne:i≠j)(h:H[l]? =some (.dict (dh A) ep))(p:(A.map (·.1)).Perm V)(hc:cD H):(∀x∈W,x∈V)→Mi (nU n (.sub (.var i) (.var j)) lm j) cD (aW W) H (aO (W.map (fnOf A))) H:=by
 induction W with
 |nil=>exact fun _=>.nil
 |cons x W ih=>
  intro hV;haveI K1:Lk (lm.set j (some (.str x))) (uw f j (.str x)):=K.set hj;refine eY (xJ (p.mem_iff.mpr (hV x cI))) fun a e=>?_;haveI ev:fnOf A x=a:=by delta fnOf;refine aa e ?_;rfl
  haveI g:dJ (.str x) (dh A)=some (.int (fnOf A x)):=by(refine aa pC (aa e ?_);refine aa ev ?_);rfl
  exact cR (cF (gR (dW K1 ((au ne).trans ki) hi) (dW K1 (aF rfl) hj) (oW h g))) hc (ih fun y hy=>hV y (cZ _ hy))
end
section
variable{n:Nat}{L:DL}{V:List Str}{D:Str→List Int}{σ:Dz}{c:Cm}{H H0:Hp}{lm:LM}{f:Nat→Option AV}{cD:Hp→Prop}{N lN:Nat}
noncomputable abbrev acQ:E:=.comp (.sub (.var 22) (.var 23)) 23 (.var 2)
theorem abL{o:AO}{MA:Nat}(K:Lk lm f)(k2:f 2=some (.loc lN))(nV:V.length<60)(bZ:∀{c H},Rep (mix L V σ c) H→c (.z MA)=some (MA,o)→cD H){Γ:Prop}{Z:Zs}:∀{c:Cm}{H:Hp},Rep (mix L V σ c) H→c (.z MA)=some (MA,o)→c (.a 20)=some (lN,.list (aW V))→ZC Z c→(∀z∈Z,(z.2.map (·.1)).Perm V)→
  (∀H' c' Y,Mi (nU n acQ lm 22) cD (Z.map fun p=>.loc p.1) H (fC Y) H'→Rep (mix L V σ c') H'→eG (jc [] false) c c'→(∀y∈Y,c' (.z y.1)=some (y.1,.list (aO y.2)))→Y.map (·.2)=Z.map (fun z=>V.map (fnOf z.2))→Γ)→Γ:=by
 induction Z with
 |nil=>exact fun{c H} R _ _ _ _ κ=>κ H c [] .nil R .refl (fun y hy=>(nx hy)) rfl
 |cons z Z ih=>
  intro c H R hl E0 zc zp κ;haveI K1:Lk (lm.set 22 (some (.loc z.1))) (uw f 22 (.loc z.1)):=K.set (by decide);haveI hN:=R.gM rfl E0;haveI rr:=JI (n:=n) (i:=22) (j:=23) (cD:=gW H lN) (W:=V) K1 rfl (by decide) (by decide) (by decide) (R.gM rfl (zc z cI)) (zp z cI) (bq hN hN rfl) fun x hx=>hx;refine R.jF (.list (aO (V.map (fnOf z.2)))) (dH (mq (by rw[bR];exact Nat.lt_trans nV (by decide)))) fun H1 t p1 R1 g1 z1=>?_;haveI G1:eG (jc [] false) c (c.up (.z t) (t,.list (aO (V.map (fnOf z.2))))):=nX z1;haveI one:nU n acQ lm 22 (.loc z.1) H [.loc t] H1:=cF (HB (dW K1 k2 (by decide)) (bL hN) rr p1);exact ih R1 (G1.2 _ _ hl) (G1.k E0 rfl rfl) (fun w hw=>G1.2 _ _ (zc w (cZ _ hw))) (fun w hw=>zp w (cZ _ hw)) fun H2 c' Y a R2 G2 y2 m2=>
   κ H2 c' ((t,V.map (fnOf z.2))::Y) (cR one (bZ R1 (G1.2 _ _ hl)) a) R2 (G1.trans G2) (fun y hy=>(bw.mp hy).elim (fun e=>by exact aa e (G2.2 _ _ up_eq)) (y2 y)) (aR (wY _) m2)
noncomputable abbrev cdH:E:=.cmp .ne (.call (.lit (.glob .list)) (.cons (.sub (.var 26) (.lit (.int 0))) .nil)) (.sub (.var 26) (.lit (.int 1)))
theorem Sn(K:Lk lm f)(bZ:∀{H},Rep (mix L V σ c) H→cD H){Γ:Prop}{hs:List Nat}:∀{H:Hp},Rep (mix L V σ c) H→(∀h∈hs,Wi c h)→(∀H',Mi (ku n cdH (.var 26) lm 26) cD (hs.map AV.loc) H [] H'→Rep (mix L V σ c) H'→Γ)→Γ:=by
 induction hs with
 |nil=>exact fun{H} R _ κ=>κ H .nil R
 |cons h hs ih=>
  intro H R hh κ;haveI K1:Lk (lm.set 26 (some (.loc h))) (uw f 26 (.loc h)):=K.set (by decide);cases hh h cI with
  |mk a b e ys q1 q2 q3 q4=>
   refine R.tmp (.list (aO ys)) (dH (mq (Nat.lt_trans q4 (by decide)))) fun H1 t p1 R1 g1 h1 _=>?_;haveI eq:=xN (n:=2) h1 (R1.gM rfl q3);rw[bN rfl]at eq;exact ih R1 (fun w hw=>hh w (cZ _ hw)) fun H2 x R2=>κ H2 (cR (MJ (bA (bI (ai (gR (dW K1 rfl (by decide)) aT (GV (R.gM rfl q1) rfl)) aq) (tT (abn (R.gM rfl q2) p1))) (gR (dW K1 rfl (by decide)) aT (GV (R1.gM rfl q1) rfl)) (iN eq))) (bZ R1) x) R2
theorem W5{e:E}{H1:Hp}{v:AV}{l:Nat}(h:Ev n e lm H (.loc l) H1)(R:Rep (mix L V σ c) H1)(hl:H1[l]? =some (.list [])){Γ:Prop}(κ:∀H2,Te n (.cmp .ne e (.list .nil)) lm H false H2→Rep (mix L V σ c) H2→Γ):Γ:=by
 refine R.tmp (.list []) (by decide:0<bQ) fun H2 t p R2 g ht _=>?_;haveI e:=iU (n:=2) (g hl) ht;exact κ H2 (bA h (b9 aq p) (iN e)) R2
end
section
variable{Ω:Lc}{j:Nat}{d:Sd}{lm:LM}{f:Nat→Option AV}{H:Hp}
theorem Sp{ck:Dz}{c':Cm}(b:Lb Ω d j H)(K:Lf d lm f){H1:Hp}(R:Rep (mix d.L d.V ck c') H1)(G:eG (jc [] false) d.c c')(dk:jh d.V d.D ck){Γ:Prop}(κ:∀d' H2,Te 9 (.cmp .ne (.fm (.var 26) 26 (.var 5) cdH) (.list .nil)) lm H1 false H2→Lb Ω d' j H2→Lf d' lm f→Γ):Γ:=by
 have h23:=G.k b.hd rfl rfl;haveI hH:=R.gM rfl h23;refine Sn (n:=9) (cD:=gW H1 d.Ah) K.k (fun R=>bq hH (R.gM rfl h23) rfl) (hs:=d.hs) R (fun h hh=>(b.hh h hh).chg G) fun H12 e12 R12=>?_;refine R12.tmp (.list []) (by decide:0<bQ) fun H13 t13 p13 R13 g13 Wf _=>?_;refine W5 (v:=.none) (e:=.fm (.var 26) 26 (.var 5) cdH) (pT (dW K.k K.l5 (by decide)) (bL hH) e12 p13) R13 Wf fun H14 e14 R14=>?_;exact b.chg R14 dk G rfl (Nat.le_refl j) rfl fun d' b' s=>κ d' H14 e14 b' (s.lf K)
structure Wz(d:Sd)(Z:List (List Int))(Y:List (List Int)):Prop where
 nd:Z.Nodup
 pm:Z.Perm Y
theorem VV(b:Lb Ω d j H)(hW:∀W∈(d.S++d.M).map Vt.W,W.Nodup∧∀x∈W,x∈d.V){Z:Zs}(zn:d.V=[]→Z=[])(zf:d.V≠[]→Found (V:=d.V) (Z.map (·.2)) (ur d.V d.D (d.M.map Vt.W))):
  (Z.map fun z=>d.V.map (fnOf z.2)).Nodup∧(Z.map fun z=>d.V.map (fnOf z.2)).Perm (nY d.V d.D ((d.S++d.M).map Vt.W)):=by
 by_cases q:d.V=[]
 ·refine aa (zn q) ?_;delta nY;exact aa (aF q) ⟨.nil,.refl _⟩
 ·haveI:=IC (Ws:=(d.S++d.M).map Vt.W) b.nd q hW (fun x hx=>(b.hD x hx).2.1) (zf q) (xO b.ks.one);rw[iM]at this;exact this
theorem Su(b:Lb Ω d j H)(lf:Lf d lm f){Γ:Prop}(κ:∀d' aI f' H',fS 9 lwB.tl.tl.tl.tl.tl lm H .next aI H'→Lb Ω d' j H'→Lf d' aI f'→Γ):Γ:=by
 have l3:=rR b.nd b.abc;have nV:d.V.length<60:=Nat.lt_of_le_of_lt l3 (by decide);haveI n3:3^d.V.length<900:=Nat.lt_of_le_of_lt (Nat.pow_le_pow_right (by decide) l3) (by decide);have hW:∀W∈(d.S++d.M).map Vt.W,W.Nodup∧∀x∈W,x∈d.V:=fun W h=>(bX.mp h).elim fun k hk=>hk.2▸(b.ks.ne k hk.1).2;haveI wnd:=uP (V:=d.V) (D:=d.D) (Ws:=(d.S++d.M).map Vt.W) fun x hx=>(b.hD x hx).2.1;refine b.va.elim fun ep Xn=>RX (n:=8) (Ks:=d.S++d.M) (⟨b.rep.gM rfl Xn,fun x hx=>(b.vk x hx).g,fun x hx=>b.rep.gM rfl (b.vk x hx).z⟩:Ka d.D d.V d.iJ d.kvs ep d.vl H) (b.rep.gM rfl b.nm) (b.rep.gM rfl b.ap) (fun k hk=>⟨b.rep.gM rfl (b.pr.kf k hk).p,(b.ks.ne k hk).2.2,Nat.lt_of_le_of_lt ((b.ks.ne k hk).2.1.length_le_of_subset (b.ks.ne k hk).2.2) (Nat.lt_trans nV (by decide))⟩) (fun x hx=>(b.hD x hx).1) nV (Nat.lt_of_le_of_lt (Nat.pow_le_pow_right (by decide) l3) (by decide)) wnd fun H1 lW Z1 e1 g1 k1 r1 m1 fl fz sZ1=>?_;refine(Rep.gr b.rep g1).Yt (below b.rep) fl k1 fun c1 R1 G1 B1 zW=>VU R1 B1 r1 fz fun c1 R1 G1b z1=>?_;haveI zW:=G1b.2 _ _ zW;have G1:=G1.trans G1b;haveI K1:=lf.set (i:=13) (v:=.loc lW) (by decide) (by decide);refine LW (n:=3) R1 (b.pr.chg G1 (j5 rfl)) (b.fr.chg G1 (j5 rfl)) b.nd n3 nV b.hD b.dom b.ks fun Z MA H2 vp c2 e2 R2 G2 dk2 SQ zc2 zn zf=>?_;have zp:∀z∈Z,(z.2.map (·.1)).Perm d.V:=fun z hz=>by
  by_cases q:d.V=[]
  ·rw[zn q]at hz;exact(nx hz)
  ·exact((zf q).snd z.2 (dF hz)).1
 haveI found:=VV b hW zn zf;have K2:=K1.set (i:=20) (v:=.loc MA) (by decide) (by decide);have G02:=G1.trans G2;haveI zW:=G2.2 _ _ zW;haveI z1:=fun y hy=>G2.2 _ _ (z1 y hy);have n20:=G02.k b.nm rfl rfl;have acR:=R2.gM rfl SQ;refine Sl (n:=9) (cD:=gW H2 MA) K2.k K2.l2 n20 b.nd nV (fun R=>bq acR (R.gM rfl SQ) rfl) R2 zc2 zp fun H3 e3 R3=>?_;refine R3.tmp (.list []) (by decide:0<bQ) fun H4 t4 p4 R4 g4 h4 _=>?_;refine W5 (lm:=(lm.set 13 (some (.loc lW))).set 20 (some (.loc MA))) (v:=.none) (e:=.fm (.var 21) 21 (.var 20) cd7) (pT (dW K2.k rfl (by decide)) (bL acR) e3 p4) R4 h4 fun H5 e5 R5=>?_;have hl5:=R5.gM rfl SQ;refine abL (n:=9) (cD:=gW H5 MA) K2.k K2.l2 nV (fun R h=>bq hl5 (R.gM rfl h) rfl) R5 SQ n20 zc2 zp fun H6 c6 Y e6 R6 G6 y6 m6=>?_;rw[←m6]at found;have lY:Y.length<64:=by
  have h8:=aR wX m1;rw[(cj (lt:=cL) _).length_eq,←found.2.length_eq,bR,bR]at h8;exact h8▸sZ1
 refine R6.tmp (.list (fC Y)) (mC (by unfold fC;rw[bR];exact Nat.lt_trans lY (by decide))) fun H7 t7 p7 R7 g7 h7 _=>?_;refine uO (n:=9) h7 (fun y hy=>R7.gM rfl (y6 y hy)) found.1 lY fun H8 Ti Y' e8 g8 k8 r8 m8 s8 f8=>?_;refine(Rep.gr R7 g8).Yt (below R7) f8 k8 fun c8 R8 G8 _ Xz=>?_;have G68:=G6.trans G8;have G08:=G02.trans G68;have zW:=G68.2 _ _ zW;have z1:=fun y hy=>G68.2 _ _ (z1 y hy);have y8:=fun y hy=>G8.2 _ _ (y6 y (s8 y hy));have K3:=K2.set (i:=12) (v:=.loc Ti) (by decide) (by decide);have pP:=R1.gM rfl (b.pr.chg G1 (j5 rfl)).p;have pA:=R1.gM rfl (b.pr.chg G1 (j5 rfl)).pa;have pP8:=R8.gM rfl (b.pr.chg G08 (j5 rfl)).p;have pA8:=R8.gM rfl (b.pr.chg G08 (j5 rfl)).pa;have same:Y'.map (·.2)=Z1.map (·.2):=by(refine aa m8 (aa m1 ?_));exact RY found.1 found.2
 have acS:∀row,row∈Z1.map (·.2)↔row∈nY d.V d.D ((d.S++d.M).map Vt.W):=fun row=>by exact aa m1 ((cj _).mem_iff)
 have fin:∀{r:AV}{H9 Hm H11:Hp}{σ9:Dz}{c9:Cm},Cf 9 .cT [.loc d.lP] H8 r H9→Rep (mix d.L d.V σ9 c9) H9→eG (jc [] false) c8 c9→jh d.V d.D σ9→
   Te 9 (.cmp .ne (.cmp .is (.var 24) (.lit .none)) (.cmp .eq (.var 13) (.list .nil))) ((((lm.set 13 (some (.loc lW))).set 20 (some (.loc MA))).set 12 (some (.loc Ti))).set 24 (some r)) H9 false Hm→Te 9 (.and (.cmp .Mm (.var 24) (.lit .none)) (.cmp .nin (.comp (.sub (.var 24) (.var 25)) 25 (.var 2)) (.var 13))) ((((lm.set 13 (some (.loc lW))).set 20 (some (.loc MA))).set 12 (some (.loc Ti))).set 24 (some r)) Hm false H11→Rep (mix d.L d.V σ9 c9) H11→Γ:=fun{r H9 Hm H11 σ9 c9} e9 R9 G9 dk9 tm t11 XD=>by
  have K4:=K3.set (i:=24) (v:=r) (by decide) (by decide);have t1:Te 9 (.cmp .ne (.var 12) (.var 13)) ((((lm.set 13 (some (.loc lW))).set 20 (some (.loc MA))).set 12 (some (.loc Ti))).set 24 (some r)) H9 false H9:=bA (dW K4.k rfl (by decide)) (dW K4.k rfl (by decide)) (iN (RV (R9.gM rfl (G9.2 _ _ Xz)) (R9.gM rfl (G9.2 _ _ zW)) (fun y hy=>R9.gM rfl (G9.2 _ _ (y8 y hy))) (fun y hy=>R9.gM rfl (G9.2 _ _ (z1 y hy))) same));exact Sp b K4 XD (G08.trans G9) dk9 fun d' H14 e14 b' JX=>κ d' _ _ H14 (aA (cC (bI (ai (dW lf.k lf.l2 (by decide)) (ai (dW lf.k lf.l3 (by decide)) (ai (dW lf.k lf.l4 (by decide)) aq))) (E4 e1)))
   (aA (cC (qd (dW K1.k K1.l1 (by decide)) (oq pP) pA (fun _=>rfl) aq e2))
   (aA (bF e5 bD)
   (aA (cC (bI (ai (HB (dW K2.k rfl (by decide)) (bL hl5) e6 p7) aq) (xQ e8)))
   (aA (cC (qd (dW K3.k K3.l1 (by decide)) (oq pP8) pA8 (fun _=>rfl) aq e9))
   (aA (bF (aaP t1 tm t11) bD) (aS (bF e14 bD)))))))) b' JX
 refine LY (n:=3) R8 (b.pr.chg G08 (j5 rfl)) (b.fr.chg G08 (j5 rfl)) b.nd nV b.hD dk2 b.ks (fun H9 σ9 c9 e9 R9 G9 dk9 no=>?_) fun H9 σ9 c9 dl A s e9 R9 G9 dk9 ne hd hp S ex=>?_
 ·have K4:=K3.set (i:=24) (v:=.none) (by decide) (by decide);have z0:Z1=[]:=by
   rw[←qg (f:=(·.2)),List.eq_nil_iff_forall_not_mem];intro row hr;rw[acS]at hr
   by_cases q:d.V=[]
   ·unfold nY at hr;rw[aF q]at hr;exact(nx hr)
   ·exact((uc b.nd q hW).mp hr).elim fun s h=>no q s ((xO b.ks.one s).mpr h.1)
  refine R9.tmp (.list []) (by decide:0<bQ) fun XC t10 To JW EW EZ _=>?_;have en:=iU (n:=2) (EW (R9.gM rfl (G9.2 _ _ zW))) EZ;rw[z0]at en;exact fin e9 R9 G9 dk9 (bA (C9 (dW K4.k rfl (by decide)) aT is_none) (C9 (dW K4.k rfl (by decide)) (b9 aq To) (gh en)) (iN I8)) (nv (bA (dW K4.k rfl (by decide)) aT Qw)) JW
 ·have K4:=K3.set (i:=24) (v:=.loc dl) (by decide) (by decide);have hr:d.V.map (fnOf A)∈Z1.map (·.2):=by
   rw[acS,uc b.nd ne hW];exact⟨s,(xO b.ks.one s).mp S,wg fun x hx=>ua hp mO ex x hx⟩
  refine R9.tmp (.list []) (by decide:0<bQ) fun XC t10 To JW EW EZ _=>?_;have w13:=R9.gM rfl (G9.2 _ _ zW);have en:=iU (n:=2) (EW w13) EZ;rw[bP (fun q:fC Z1=[]=>by rw[qg.mp q]at hr;exact(nx hr))]at en;have n10:=JW.gM rfl ((G08.trans G9).k b.nm rfl rfl);have rr:=JI (n:=9) (i:=24) (j:=25) (cD:=gW XC d.lN) (W:=d.V) K4.k rfl (by decide) (by decide) (by decide) (JW.gM rfl hd) hp (bq n10 n10 rfl) fun x hx=>hx;refine JW.tmp (.list (aO (d.V.map (fnOf A)))) (dH (mq (by rw[bR];exact Nat.lt_trans nV (by decide)))) fun H11 t11 p11 XD g11 h11 _=>?_;have nin:=in_list (u:=.loc t11) (g11 (EW w13)) (VL h11 (fun y hy=>g11 (EW (R9.gM rfl (G9.2 _ _ (z1 y hy))))));rw[bN hr]at nin;exact fin e9 R9 G9 dk9 (bA (C9 (dW K4.k rfl (by decide)) aT YJ) (C9 (dW K4.k rfl (by decide)) (b9 aq To) (gh en)) (iN I8)) (ly (bA (dW K4.k rfl (by decide)) aT T3) (bA (HB (dW K4.k K4.l2 (by decide)) (bL n10) rr p11) (dW K4.k rfl (by decide)) (nq nin))) XD
end
theorem Done.elim{Ω:Lc}{j:Nat}{b:SL}{lm:LM}{H:Hp}(h:Done Ω j b lm H){Γ:Prop}(κ:∀d' aI f' H',fS 9 b lm H .next aI H'→Lb Ω d' (j+1) H'→Lf d' aI f'→Γ):Γ:=by
 cases h with
 |mk d' aI f' H' e b' l'=>exact κ d' aI f' H' e b' l'
section
variable{Ω:Lc}{j:Nat}{d:Sd}{aH:Qd}{lm:LM}{f:Nat→Option AV}{H:Hp}{v:Int}
theorem Mg(hj:j<90)(p:Lq Ω d j lm f H aH)(h0:0≤aH.kind)(h8:aH.kind<8){Γ:Prop}(κ:∀d' aI f' H',En 9 lwI lm H .next aI H'→Lb Ω d' (j+1) H'→Lf d' aI f'→Γ):Γ:=by
 have K:=p.lf.k;haveI lt:Te 9 (.cmp .lt (.var 7) (.lit (.int 4))) lm H (decide (aH.kind<4)) H:=bA (dW K p.l7 (by decide)) aT Wq;have ce:∀(H:Hp)(q:Int),Te 9 (.cmp .eq (.var 7) (.lit (.int q))) lm H (decide (aH.kind=q)) H:=fun H q=>bA (dW K p.l7 (by decide)) aT (gh gT)
 by_cases q4:aH.kind<4
 ·rw[bN q4]at lt;exact(brA hj p ⟨h0,q4⟩).elim fun d' aI f' H' a b c=>κ d' aI f' H' (cV lt a) b c
 rw[bP q4]at lt;have κ:=fun d' aI f' H' (a:En 9 Yr lm H .next aI H') b c=>κ d' aI f' H' (bF lt (aS a)) b c;haveI t4:=ce H 4
 by_cases e4:aH.kind=4
 ·rw[bN e4]at t4;exact(br4 p).elim fun d' aI f' H' a b c=>κ d' aI f' H' (cV t4 a) b c
 rw[bP e4]at t4;have κ:=fun d' aI f' H' (a:En 9 Ys lm H .next aI H') b c=>κ d' aI f' H' (bF t4 (aS a)) b c;haveI t5:=ce H 5
 by_cases e5:aH.kind=5
 ·rw[bN e5]at t5;refine p.rep.tmp (.list []) (by decide:0<bQ) fun H1 t p1 R1 g1 k1 _=>?_;have p':Lq Ω d j lm f H1 aH:={p with rep:=R1};haveI en:=iU (n:=2) (g1 (p.rep.gM rfl p.nm)) k1
  by_cases q:d.V=[]
  ·rw[bN (show aW d.V=[] by rw[q];rfl)]at en;have tt:Te 9 (.and (.cmp .eq (.var 7) (.lit (.int 5))) (.cmp .ne (.var 2) (.list .nil))) lm H false H1:=ly t5 (bA (dW K p.lf.l2 (by decide)) (b9 aq p1) (iN en));have t6:=ce H1 6;have t7:=ce H1 7;rw[bP (by lia)]at t6 t7;exact κ d lm f H1 (bF tt (aS (bF t6 (aS (bF (nv t7) (aS (bF t7 bD))))))) p'.toLb.succ p.lf
  ·rw[bP (fun z:aW d.V=[]=>q (qg.mp z))]at en;have tt:Te 9 (.and (.cmp .eq (.var 7) (.lit (.int 5))) (.cmp .ne (.var 2) (.list .nil))) lm H true H1:=ly t5 (bA (dW K p.lf.l2 (by decide)) (b9 aq p1) (iN en));exact(br5 hj p' q).elim fun d' aI f' H' a b c=>κ d' aI f' H' (cV tt a) b c
 rw[bP e5]at t5;haveI t6:=ce H 6;have t7:=ce H 7
 by_cases e6:aH.kind=6
 ·rw[bN e6]at t6;exact(br6 p).elim fun d' aI f' H' a b c=>κ d' aI f' H' (bF (nv t5) (aS (cV t6 a))) b c
 rw[bP e6]at t6;rw[bN (by lia)]at t7;have t3:Te 9 (.cmp .eq (.bin .mod (.var 8) (.lit (.int 3))) (.lit (.int 0))) lm H (decide (Int.fmod aH.r 3=0)) H:=bA (jX (dW K p.l8 (by decide)) aT (zE (by decide))) aT (gh gT)
 by_cases e7:Int.fmod aH.r 3=0
 ·rw[bN e7]at t3;exact(br7 p).elim fun d' aI f' H' a b c=>κ d' aI f' H' (bF (nv t5) (aS (bF t6 (aS (cV (ly t7 t3) a))))) b c
 ·rw[bP e7]at t3;exact(br8 hj p).elim fun d' aI f' H' a b c=>κ d' aI f' H' (bF (nv t5) (aS (bF t6 (aS (bF (ly t7 t3) (aS (cV t7 a))))))) b c
theorem Sw(hj:j<90)(b:Lb Ω d j H)(lf:Lf d lm f)(h6:f 6=some (.int v)){Γ:Prop}(κ:∀d' aI f' H',fS 9 lwB lm H .next aI H'→Lb Ω d' (j+1) H'→Lf d' aI f'→Γ):Γ:=by
 haveI K1:=lf.set (i:=7) (v:=.int (Int.fmod v 8)) (by decide) (by decide);haveI K2:=K1.set (i:=8) (v:=.int (Int.fdiv v 8)) (by decide) (by decide);refine Z9 (n:=9) (r:=Int.fdiv v 8) K2.k rfl b.rep fun H1 e1 R1=>?_;haveI K3:=K2.set (i:=9) (v:=.str (Kf (Int.fdiv v 8))) (by decide) (by decide);refine aaa (n:=9) (r:=Int.fdiv v 8) K3.k rfl R1 fun H2 lG e2 R2=>?_;haveI K4:=K3.set (i:=11) (v:=.loc lG) (by decide) (by decide);refine b.chg (l:=[24]) R2 b.dom (bk rfl rfl) rfl (Nat.le_refl j) rfl fun d' b' s=>?_;haveI p:Lq Ω d' j _ _ H2 ⟨Int.fmod v 8,Int.fdiv v 8,Kd (Int.fdiv v 8),Kf (Int.fdiv v 8),lG⟩:={b' with lf:=s.lf K4,l7:=rfl,l8:=rfl,l9:=rfl,yr:=rfl,g:=by refine aa s.c ?_;exact up_eq,gl:=(NQ _).1,gn:=(NQ _).2,ab:=abD _};refine Mg hj p (Int.fmod_nonneg_of_pos v (by decide)) (Int.fmod_lt_of_pos v (by decide)) fun d1 iZ f1 H3 a1 b1 c1=>Su b1 c1 fun d2 gV f2 H4 a2 b2 c2=>κ d2 gV f2 H4 ?_ b2 c2;refine aA (cC (jX (dW lf.k h6 (by decide)) aT (zE (by decide)))) ?_;refine aA (cC (jX (dW K1.k h6 (by decide)) aT (HD (by decide)))) ?_;refine aA (cC e1) ?_;exact aA (e2 _) (aA a1 a2)
theorem Mh{H0:Hp}(hI:H0[Ω.Tq]? =some (.list Ω.X)){Γ:Prop}{vs:List Int}:∀{j:Nat}{d:Sd}{lm:LM}{f:Nat→Option AV}{H:Hp},j+vs.length<90→Lb Ω d j H→Lf d lm f→(∀d' aI f' H',Tn (fS 9 lwB) (.one 6) (gW H0 Ω.Tq) (aO vs) lm H none aI H'→Lb Ω d' (j+vs.length) H'→Lf d' aI f'→Γ)→Γ:=by
 induction vs with
 |nil=>exact fun{j d lm f H} _ b lf κ=>κ d lm f H .nil b lf
 |cons v vs ih=>
  intro j d lm f H hj b lf κ;haveI hj':j+1+vs.length<90:=by rw[Nat.add_assoc,Nat.add_comm 1];exact hj
  refine Sw (v:=v) (Nat.lt_of_le_of_lt (Nat.le_add_right _ _) hj) b (lf.set (i:=6) (v:=.int v) (by decide) (by decide)) rfl fun d2 gV f2 H2 x y z=>ih hj' y z fun d' aI f' H' a b' JX=>κ d' aI f' H' (.next fM x (bq hI (y.rep.gM rfl y.it) rfl) a) ?_ JX;refine aa (show j+(v::vs).length=j+1+vs.length by rw[Nat.add_assoc,Nat.add_comm 1];rfl) ?_;exact b'
theorem Mj{vs:List Int}(hn:vs.length≤8)(hX:Ω.X=aO vs)(b:Lb Ω d 0 H)(lf:Lf d lm f){Γ:Prop}(κ:∀d' aI f' H',Tur 9 (.one 6) lwB H Ω.Tq (aO vs) lm H none aI H'→Lb Ω d' vs.length H'→Lf d' aI f'→Γ):Γ:=
 Mh (b.rep.gM rfl b.it) (by rw[Nat.zero_add];exact Nat.lt_of_le_of_lt hn (by decide)) b lf fun d' aI f' H' a b' JX=>κ d' aI f' H' a (by rw[Nat.zero_add]at b';exact b') JX
end
section
variable{L:DL}{V:List Str}{σ:Dz}{c:Cm}{H:Hp}{lm:LM}{f:Nat→Option AV}{n:Nat}
theorem VW(R:Rep (mix L V σ c) H){Γ:Prop}(κ:∀H' c',Ev (n+2) (.call (.lit (.glob (.fn .gj))) (.cons (.call (.lit (.glob (.cls .recursive))) .nil) (.cons (.lit (.int 2)) .nil))) lm H (.bool true) H'→Rep (mix L V σ c') H'→eG (jc [32,33] false) c c'→Γ):Γ:=by
 refine R.fY (.a 33) rfl (.attrs []) trivial fun H1 e p1 R1 g1=>?_;refine R1.fY (.a 32) rfl (.inst .recursive e) trivial fun H2 l p2 R2 g2=>?_;haveI a33:((c.up (.a 33) (e,.attrs [])).up (.a 32) (l,.inst .recursive e)) (.a 33)=_:=aL up_eq rfl;refine R2.jM a33 rfl (.attrs [(.cy,.bool true)]) trivial fun H3 p3 R3=>?_;refine uN (n:=n) (k:=2) (q:=.recursive) R3 (aL up_eq rfl) up_eq (.inr ⟨rfl,rfl⟩) fun H4 e4 R4=>?_;haveI mk:Cl (n+2) (.glob (.cls .recursive)) [] H (.loc l) H3:=Nx (f:=.wm) rfl p1 p2 (iB rfl rfl (aS (qE (aj rfl) (aj rfl) (rN (q:=.cy) (R2.gM (r:=.a 32) rfl up_eq) (R2.gM rfl a33) p3))));exact κ H4 _ (bI (ai (bI aq mk) (ai aT aq)) (E4 e4)) R4 ((eG.trans (bk rfl rfl) (bk rfl rfl)).trans (bk rfl rfl))
noncomputable abbrev cdS:E:=.not (.call (.lit (.glob (.fn .gj))) (.cons (.call (.lit (.glob (.cls .solver))) .nil) (.cons (.var 27) .nil)))
theorem BQ{k:Int}(K:Lk lm f)(R:Rep (mix L V σ c) H)(hk:k=0∨k=1∨k=2){Γ:Prop}(κ:∀H' c',ku (n+2) cdS (.var 27) lm 27 (.int k) H [] H'→Rep (mix L V σ c') H'→eG (jc [32,33] false) c c'→Γ):Γ:=by
 haveI K1:Lk (lm.set 27 (some (.int k))) (uw f 27 (.int k)):=K.set (by decide);refine R.fY (.a 33) rfl (.attrs []) trivial fun H1 e p1 R1 g1=>?_;refine R1.fY (.a 32) rfl (.inst .solver e) trivial fun H2 l p2 R2 g2=>?_;refine uN (n:=n) (k:=k) (q:=.solver) R2 up_eq (aL up_eq rfl) (.inl ⟨rfl,hk⟩) fun H4 e4 R4=>?_;exact κ H4 _ (MJ (gu (jP (bI (ai (bI aq (Jr (.inl rfl) p1 p2)) (ai (dW K1 rfl (by decide)) aq)) (E4 e4)) eT))) R4 (eG.trans (bk rfl rfl) (bk rfl rfl))
end
noncomputable def L00:DL:=⟨fun _=>0,fun _=>0,fun _=>0,fun _=>0⟩
noncomputable def Yu:Dz:=⟨fun _=>[],fun _=>[],fun _=>[]⟩
noncomputable def Kh:LM:=some (.loc 0)::nO 27 none
noncomputable def f00:Nat→Option AV:=fun i=>if i=0 then some (.loc 0)else none
theorem aet:Lk Kh f00:=fun i hi=>by
 delta Kh f00;cases i with
 |zero=>rfl
 |succ i=>
  (refine aa Od ?_;refine aa Oc ?_;refine aa (aF (by lia)) (aa (au (by lia)) ?_);with_reducible rfl)
theorem abM{xs:List (Int×Nat)}{n:Nat}:Rep (mix L00 [] Yu (Cm.up (fun _=>none) (.a 30) (0,.arg xs n))) [AO.arg xs n]:=by
 have key:∀{r p},mix L00 [] Yu (Cm.up (fun _=>none) (.a 30) (0,.arg xs n)) r=some p→r=.a 30∧p=(0,.arg xs n):=fun{r p} q=>by
  have q':=ny (L:=L00) (V:=[]) (σ:=Yu) (c:=fun _=>none) (r:=.a 30) (p:=(0,AO.arg xs n)) rfl r p q
  by_cases e:r=.a 30
  ·subst e;rw[up_eq]at q';cases q';exact⟨rfl,rfl⟩
  ·rw[aX e]at q';cases r<;>cases(show none=some p from q')
 exact⟨fun q=>by obtain⟨_,e⟩:=key q;cases e;rfl,fun q q'=>(key q).1.trans (key q').1.symm,fun q=>by cases(key q).1⟩
noncomputable abbrev itE:E:=.ite (.var 0) (.upTo (.var 0) (.lit (.int 8))) (.list (.cons (.lit (.int 1)) (.cons (.lit (.int 41)) (.cons (.lit (.int 2)) (.cons (.lit (.int 8)) .nil)))))
theorem VX{xs:List (Int×Nat)}{n:Nat}{lm:LM}{f:Nat→Option AV}{L:DL}{V:List Str}{σ:Dz}{c:Cm}{H:Hp}(K:Lk lm f)(k0:f 0=some (.loc 0))(R:Rep (mix L V σ c) H)(ha:c (.a 30)=some (0,.arg xs n)){Γ:Prop}(κ:∀vs l H',Ev 9 itE lm H (.loc l) H'→Rep (mix L V σ (c.up (.a 31) (l,.list (aO vs)))) H'→vs.length≤8→Γ):Γ:=by
 have h30:=R.gM (r:=.a 30) rfl ha;haveI tt:=ZP h30;cases xs with
 |nil=>exact R.fY (.a 31) rfl (.list (aO [1,41,2,8])) (by show 4<bQ;decide) fun H6 l p6 R6 g6=>κ [1,41,2,8] l H6 (Ho (t_v K k0 (by decide) tt) (b9 (ai aT (ai aT (ai aT (ai aT aq)))) p6)) R6 (by decide)
 |cons x xs=>
  have len:(((x::xs).map (·.1)).take 8).length≤8:=by exact aa AJ (Nat.min_le_left _ _)
  exact R.fY (.a 31) rfl (.list (aO (((x::xs).map (·.1)).take 8))) (dH (Nat.lt_of_le_of_lt len (by decide))) fun H6 l p6 R6 g6=>κ (((x::xs).map (·.1)).take 8) l H6 (Hl (t_v K k0 (by decide) tt) (P4 (dW K k0 (by decide)) aT (by decide) (PB h30) (by
   rw[show(vQ (x::xs)).take (8:Int).toNat=aO (((x::xs).map (·.1)).take 8) by
    show(vQ (x::xs)).take 8=_;delta vQ aO;(refine ez AQ (ez AQ ?_);refine aa iM ?_);rfl];exact p6))) R6 len
theorem Sy(xs:List (Int×Nat))(n:Nat)(h:xs.length≤63):Bc xs n:=by
 haveI z0:(0:Nat)<bQ:=by decide
 refine RT (n:=7) (abM (xs:=xs) (n:=n)) fun H1 c1 lP dP lS dS lK lV e1 R1 vP G1=>?_;haveI K0:=aet;haveI K1:Lk (Kh.set 1 (some (.loc lP))) (uw f00 1 (.loc lP)):=K0.set (by decide);refine R1.fY (.a 20) rfl (.list (aW [])) z0 fun H2 lN p2 R2 g2=>?_;refine R2.fY (.a 21) rfl (.dict [] 0) z0 fun H3 iJ p3 R3 g3=>?_;refine R3.fY (.a 22) rfl (.list []) z0 fun H4 lZ p4 R4 g4=>?_;refine R4.fY (.a 23) rfl (.list (([]:List Nat).map AV.loc)) z0 fun H5 Ah p5 R5 g5=>?_;haveI K5:Lk (((((Kh.set 1 (some (.loc lP))).set 2 (some (.loc lN))).set 3 (some (.loc iJ))).set 4 (some (.loc lZ))).set 5 (some (.loc Ah))) (uw (uw (uw (uw (uw f00 1 (.loc lP)) 2 (.loc lN)) 3 (.loc iJ)) 4 (.loc lZ)) 5 (.loc Ah)):=(((K1.set (by decide)).set (by decide)).set (by decide)).set (by decide);haveI G5:eG (jc [20,21,22,23] false) c1 ((((c1.up (.a 20) (lN,.list (aW []))).up (.a 21) (iJ,.dict [] 0)).up (.a 22) (lZ,.list [])).up (.a 23) (Ah,.list (([]:List Nat).map AV.loc))):=((eG.trans (bk rfl rfl) (bk rfl rfl)).trans (bk rfl rfl)).trans (bk rfl rfl);haveI a30:c1 (.a 30)=some (0,.arg xs n):=G1.k up_eq rfl rfl;refine VX K5 rfl R5 (G5.k a30 rfl rfl) fun vs Tq H6 e6 R6 hn=>?_;haveI G6:eG (jc [20,21,22,23,31] false) c1 (((((c1.up (.a 20) (lN,.list (aW []))).up (.a 21) (iJ,.dict [] 0)).up (.a 22) (lZ,.list [])).up (.a 23) (Ah,.list (([]:List Nat).map AV.loc))).up (.a 31) (Tq,.list (aO vs))):=(G5.w (by decide)).trans (bk rfl rfl);haveI G06:eG (jc [6,7,10,11,12,13,20,21,22,23,31] false) (Cm.up (fun _=>none) (.a 30) (0,.arg xs n)) _:=(eG.w (l:=[6,7,10,11,12,13]) G1 (by decide)).trans (G6.w (by decide));haveI fr0:My (Cm.up (fun _=>none) (.a 30) (0,AO.arg xs n)):=fun r hr=>aX fun e=>by rw[e]at hr;cases hr
 refine mkL (Ω:=⟨xs,n,Tq,aO vs⟩) (j:=0) (lm:=((((Kh.set 1 (some (.loc lP))).set 2 (some (.loc lN))).set 3 (some (.loc iJ))).set 4 (some (.loc lZ))).set 5 (some (.loc Ah))) (f:=uw (uw (uw (uw (uw f00 1 (.loc lP)) 2 (.loc lN)) 3 (.loc iJ)) 4 (.loc lZ)) 5 (.loc Ah)) (D:=fun _=>[]) (S:=[]) (M:=[]) (x:=sa) (kvs:=[]) (hs:=[]) (vl:=fun _=>0) (rep:=R6)
  (pr:=⟨G6.k vP.p rfl rfl,G6.k vP.pa rfl rfl,G6.k vP.k rfl rfl,vP.v.elim fun e q=>⟨e,G6.k q rfl rfl⟩,⟨G6.k vP.sv.i rfl rfl,G6.k vP.sv.f rfl rfl⟩,fun k hk=>(nx hk)⟩) (fr:=fr0.chg G06 (j5 rfl)) (nd:=.nil) (abc:=fun y hy=>(nx hy)) (hD:=fun y hy=>(nx hy)) (dom:=fun y hy=>(nx hy)) (ks:=⟨fun k hk=>(nx hk),fun k hk=>(nx hk),fun k hk=>(nx hk),(by decide:0<100)⟩) (kn:=Nat.le_refl _)
  (nm:=aL (aL (aL (aL up_eq rfl) rfl) rfl) rfl) (va:=⟨0,aL (aL (aL up_eq rfl) rfl) rfl⟩) (vk:=fun y hy=>(nx hy)) (vn:=Nat.le_refl _) (ap:=aL (aL up_eq rfl) rfl) (hd:=aL up_eq rfl) (hh:=fun h hh=>(nx hh)) (hn:=Nat.le_refl _) (it:=up_eq) (ar:=G6.k a30 rfl rfl) (k:=K5) (l1:=rfl) (l2:=rfl) (l3:=rfl) (l4:=rfl) (l5:=rfl) fun d b lf _ _=>?_
 refine Mj hn rfl b lf fun d' lm7 f7 H7 e7 b' JX=>?_;haveI hI:=R6.gM (r:=.a 31) rfl up_eq;haveI hS:=IA (n:=8) b'.rep b'.pr;refine VW (n:=7) (lm:=lm7) b'.rep fun H8 c8 e8 R8 G8=>?_;refine R8.fY (.a 35) rfl (.pX 0 ((3:Nat):Int)) (by decide) fun H9 l9 p9 R9 g9=>?_;haveI SW:=R9.gM (r:=.a 35) rfl up_eq;haveI k35:∀{c c':Cm},eG (jc [32,33] false) c c'→c' (.a 35)=c (.a 35):=fun G=>G.1 _ rfl rfl;refine BQ (n:=7) (k:=0) JX.k R9 (.inl rfl) fun Ha ca ea Ra Ga=>?_;refine BQ (n:=7) (k:=1) JX.k Ra (.inr (.inl rfl)) fun Hb cb eb Rb Gb=>?_;refine BQ (n:=7) (k:=2) JX.k Rb (.inr (.inr rfl)) fun Hc cc ec Rc Gc=>?_;haveI sa':=bq SW (Ra.gM rfl ((k35 Ga).trans up_eq)) rfl;haveI sb':=bq SW (Rb.gM rfl ((k35 Gb).trans ((k35 Ga).trans up_eq))) rfl;haveI sc':=bq SW (Rc.gM rfl ((k35 Gc).trans ((k35 Gb).trans ((k35 Ga).trans up_eq)))) rfl;haveI items:Mi (ku 9 cdS (.var 27) lm7 27) (gW H9 l9) (idxs 0 3) H9 [] Hc:=cR ea sa' (cR eb sb' (cR ec sc' .nil));refine Rc.tmp (.list []) z0 fun Hd l10 To JW EW EZ _=>?_;refine JW.tmp (.list []) z0 fun He yr p11 XD g11 h11 _=>?_;haveI en:=iU (n:=2) (g11 EZ) h11;refine⟨Kh,lm7,He,rfl,?_,XD.gM (r:=.a 30) rfl (Gc.k (Gb.k (Ga.k (aL (G8.k b'.ar rfl rfl) rfl) rfl rfl) rfl rfl) rfl rfl)⟩;haveI hi:=b'.rep.gM rfl b'.pr.sv.i;refine aA (cC (bI aq e1)) ?_;refine aA (cC (b9 aq p2)) ?_;refine aA (cC (nC p3)) ?_;refine aA (cC (b9 aq p4)) ?_;refine aA (cC (b9 aq p5)) ?_;refine aA (gS e6 (bL hI) e7 bD) ?_;refine aA (bF (zy (gu (jP (bI (ai (qd (dW JX.k JX.l1 (by decide)) (oq (b'.rep.gM rfl b'.pr.p)) (b'.rep.gM rfl b'.pr.pa) (fun _=>rfl) aq hS) (ai aT aq)) (Qj (isI hi rfl))) eT)) (gu (jP e8 eT))) bD) ?_;exact aJ (jE (C9 (pT (bI (ai aT aq) (D4 p9)) (HE SW) items To) (b9 aq p11) (gh en))) rfl
end qo
theorem PySem.Challenge.cw_al0018_01_holds : PySem.Challenge.rw_al0018_01.Holds :=
  qo.foo qo.Sy
