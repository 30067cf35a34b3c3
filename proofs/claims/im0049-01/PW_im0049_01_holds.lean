import PyProof.Rows.All
import PyProof.TupleIter
import PyProof.FString5
import PyProof.CallFns
import PyProof.SliceSyntax
import PyProof.CompUse
import PyProof.ListOps
import PyProof.DictWalks
import PyProof.Draws
import PyProof.EnumMake
import PyProof.Rows.EqNone
import PyProof.EqKinds
import PyProof.ExcBaseAll.Exception
import PyProof.ExcAttrAll.Exception
import PyProof.ExcInit
import PyProof.ReprStr
import PyProof.ReprUnder
import PyProof.WalksMore
import PyProof.RangeFor
import PyProof.InstStoreFacts
import PyProof.IsiPairs
import PyProof.RulesAs
import PyProof.StrLawsRepr
import PyProof.Rows.TupAssign
import PyProof.RulesDel
import PyProof.Rows.StrJoin2
import PyProof.Rows.Chain
import PyProof.Rows.Nodes
import PyProof.Rows.RuleB_floordiv
import PyProof.Rows.RuleB_mod
import PyProof.Rows.RuleIs
import PyProof.SliceMore
import PyProof.Rows.ChunkLeaf
import OpenK.KTop
import OpenK.KLaw
import KE.KDictList
import KE.KDictOf
import KE.KIntText
import KE.KIsNot
import KE.KSuper
import KE.KxPercentT
import Wide.FinOn
import OpenK.AllK
import Wide.All
import Lean
import PySem.Challenge.RW_im0049_01
open Bool renaming false → af, true → ae, false_ne_true → jW, not_eq_true' → cR, casesOn → lG, false_eq_true → EA, and_false → zC, or_true → aaj
open Option renaming some → ag, none → bg, casesOn → pO
open List renaming append_assoc → aR, length → av, length_append → bE, contains → ax, append → bp, getD → fD, casesOn → cv, length_map → e_, append_nil → gv, mem_append_left → ib, cons_ne_nil → fE, sublist_append_right → pK, mem_append_right → bM, flatten_append → nG, length_cons → lE, map_append → ko, getElem?_eq_getElem → lH, find?_cons → pM, length_nil → pN, contains_cons → wq, map_cons → rA, getD_eq_getElem?_getD → ER, mem_map_of_mem → zO, flatten_cons → zv, getElem?_map → zw, cons_append → zx, length_take → zz, any_cons → wg, drop_eq_getElem_cons → Ll, size_toArray → Lm, drop_of_length_le → Lo, flatten_singleton → zF, map_congr_left → Lv, range' → pJ, perm_append_comm_assoc → Lw, getElem?_append_right → Z8, map_map → Ly, perm_middle → LA, take_length → Z', cons_lt_cons_iff → LD, drop_zero → LF, range → EL
open Nat renaming le_trans → aL, le_of_ble_eq_true → bw, ble → aJ, le_add_left → cF, le_add_right → dh, beq → aH, eq_of_beq_eq_true → bG, add_le_add_left → c8, add_assoc → eL, add_le_add_right → gw, succ_le_succ → jy, zero_add → fY, le_refl → eF, add_right_comm → jz, zero_le → gx, mul_le_mul_left → nH, lt_of_le_of_lt → lF, add_comm → kq, ne_of_lt → nK, not_succ_le_zero → wm, blt → iL, le_of_eq → pP, ble_eq_true_of_le → zN, le_of_succ_le → wt, le_succ → pQ, add_le_add → tI, le_succ_of_le → zT, lt_irrefl → wh, le_of_succ_le_succ → ED, min_le_right → EG, lt_succ_self → Lq, ne_of_gt → Lu, succ → Z5, lt_of_lt_of_le → Lx, succ_ne_zero → Z_, min_self → LK, le_total → LL
open Int renaming toNat → a9, toNat_natCast → rx, natCast_nonneg → zR, emod_nonneg → zB, ofNat → Z4, add_sub_cancel → EI, eq_ofNat_of_zero_le → aae, add_zero → aeT, le_trans → aeU
open Option.some renaming inj → fX
open Sum renaming casesOn → wj
open Array renaming getElem?_toList → zM, length_toList → tH, any_toList → Lz
open List.Sublist renaming refl → Ln
open List.Perm renaming swap → EK
open List.cons renaming inj → LG
open Int.ofNat renaming inj → LH
open PySem PySem.W PySem.Calls PyProof.Rows PySem.SeqAt PySem.NumText
set_option Elab.async false
set_option maxRecDepth 100000
set_option maxHeartbeats 0
set_option linter.all false
set_option genInjectivity false
set_option backward.match.sparseCases false
set_option genSizeOf false
open PySem.Str renaming ofString → ai, mk → ck
open PySem renaming Value → ao, Shared → ay, Addr → aQ, wpAny → aA, Expr → aw, wpAny_bind → bq, Stmt → aG, wpAny_pure → dv, Around → eK, Obj → km, Operator → mj, wpAny_mono → iK, Heap → cG, Pos → zG, Params → Z6
open PySem.W renaming listOf → cM, Frag → jX
open PySem.Value renaming ref → jV, none → mn, str → rp, builtin → EE, isStrOf → Z7, bool → EM
open PySem.Heap renaming get?_push_of_some → nF, SameBut → pL, get?_push_size → kr, lt_size → ru, get?_update_self → Ey, size_push → zD
open PySem.Pos renaming mk → eM
open PySem.Expr renaming Name → ic, Subscript → zI, Constant → aai
open PySem.PyData renaming keyHash → ml
open PySem.BindsTo renaming of_defaults → nJ, of_eq → zJ
open PySem.Challenge renaming rw_im0049_01 → ku
open PySem.W.Fast renaming te10156331382660048174 → EN, te11892475500146522536 → EO, te14364793385576792824 → EP, te6613529449190102663 → EB, te4187177175401517315 → EC, tw9807087744658564304 → Z2, tw2368527892694137696 → Z3
open PySem.Builtin.Str renaming strSliceIndices → zK, percentFormat → Z9
open PySem.Builtin.Range renaming rangeSize → zL, small → LJ
open PySem.Expr.Attribute renaming elim → zP
open PySem.Expr.Subscript renaming elim → zQ
open PySem.Operator renaming Mod → zS
open PySem.Expr.Call renaming elim → we
open PySem.Stmt.Assign renaming elim → zy
open PySem.Around renaming frames_deeper → Ez
open PySem.Obj renaming mapFields → wi, mapSeq → aag
open PySem.F renaming excBase_Exception → Lk, slot_list_pop → tG, slot_dict_delitem → EJ, slot_list_extend → LB, plainAttrs_list → aac, entry_list_pop → LC, slot_str_mod → aaf
open PySem.Expr.Tuple renaming elim → zA
open PySem.BoolOp renaming casesOn → zE
open PySem.NameKind renaming casesOn → rq
open PySem.W.KPc renaming turn → EF
open PySem.Builtin.ObjectAttr renaming storeInDict → Ls
open PySem.Heap.SameBut renaming update → EH
open PySem.Expr.Name renaming elim → zH
open PySem.Heap.UpToSlots renaming of_keeps → aad
open PySem.EntryCells renaming newEntry → aah
namespace Mine
section head
noncomputable def pU(st:SharedT→Thread→Option (SharedT×Thread))(ok:Thread→Bool):Nat→SharedT→Thread→Option SharedT
 |0,_,_=>bg
 |n+1,s,t=>match through t with
  |true=>ag s
  |false=>match ok t with
   |false=>bg
   |true=>match st s t with
    |some (s',t')=>pU st ok n s' t'
    |none=>bg
theorem MA{p:Program}{w:World}{KO:Nat}{ann:Option ao}:∀(n:Nat)(s:SharedT)(t:Thread)(r:SharedT),
 pU (stepT (denote treeTable) p w) (stepOk KO ann) n s t=ag r→topRun treeTable p w KO ann n s.abs t=ag r.abs
 |0,_,_,_,h=>by cases h
 |n+1,s,t,r,h=>by
  unfold pU at h
  unfold topRun
  split at h
  ·rename_i e;rw[e];cases h;rfl
  ·rename_i e
   rw[e]
   split at h
   ·cases h
   ·rename_i e2
    rw[e2]
    split at h
    ·rename_i s' t' e3
     dsimp only
     rw[stepT_spec e3]
     exact MA n s' t' r h
    ·cases h
noncomputable def bt(P:Z6):BT:=(((((((((((BT.nil.ins 0 (boot_o_0 P)).ins 1 (boot_o_1 P)).ins 2 (boot_o_2 P)).ins 3 (boot_o_3 P)).ins 4 (boot_o_4 P)).ins 5 (boot_o_5 P)).ins 6 (boot_o_6 P)).ins 7 (boot_o_7 P)).ins 8 (boot_o_8 P)).ins 9 (boot_o_9 P)).ins 10 (boot_o_10 P))
noncomputable def s0(w:World)(os:OsState):SharedT:=⟨bt w.params,11,(boot_heap w.params).life,#[],boot_drawn,boot_toks,os⟩
theorem abu(w:World)(os:OsState):(s0 w os).abs=⟨boot_heap w.params,#[],boot_drawn,boot_toks,os⟩:=by kernel_rfl
theorem ab0(P:Z6):((boot_heap P).isNs mainGlobals&&(#[]:Array GenState).size==0,(boot_heap P).objs.size,(boot_heap P).nsMap mainGlobals "__annotations__")=(ae,11,ag (.ref 6)):=by kernel_rfl
theorem Kf{p q:Program}{loose:List Str}{Xt:ay→Bool}{α:Type}{Yf:ay→α}{Ya:World→α}{N M:Nat}
 (Z0:∀w:World,(fencedOpening treeTable p w N).map (λs=>(s.heap,s.gens,s.drawn,s.toks))=ag (boot_heap w.params,Array.mk [],boot_drawn,boot_toks))
 (le:aJ M N=ae)
 (run:∀(w:World)(os:OsState),(pU (stepT (denote treeTable) p w) (stepOk 11 (ag (.ref 6))) M (s0 w os) (topStub p)).map (λs=>
  (
   staticsOk (importedModules p.main.body) (boot_heap w.params) s.abs.heap&&namesBound p s.abs.heap&&gensDone s.abs&&laidKept (boot_heap w.params) s.abs.heap,
   openSeen q loose (importedModules p.main.body) Xt ae s.abs,Yf s.abs))=ag (ae,openGood q loose,Ya w)):LeftO p q loose Xt Yf Ya N:=λw=>by
 obtain⟨⟨h,gs,d,k,os⟩,e,e'⟩:=Option.map_eq_some_iff.mp (Z0 w)
 obtain⟨rfl,rfl,rfl,rfl⟩:h=boot_heap w.params∧gs=#[]∧d=boot_drawn∧k=boot_toks:=by simpa using e'
 obtain⟨S,eS,lS⟩:=Option.map_eq_some_iff.mp (run w os)
 obtain⟨z1,z2,z3⟩:_∧_∧_:=by simpa only[Prod.mk.injEq]using ab0 w.params
 obtain⟨l1,l2,l3⟩:_∧_∧_:=by simpa only[Prod.mk.injEq]using lS
 have r:=topRun_mono (N -M) _ _ _ _ (MA _ _ _ _ eS)
 rw[abu,show M+(N -M)=N by have:=bw le;omega]at r
 have t:topFrom treeTable p w N ⟨boot_heap w.params,#[],boot_drawn,boot_toks,os⟩=ag S.abs:=by
  unfold topFrom
  dsimp only
  rw[z1,z2,z3,r]
  show(match staticsOk (importedModules p.main.body) (boot_heap w.params) S.abs.heap&&namesBound p S.abs.heap&&gensDone S.abs&&laidKept (boot_heap w.params) S.abs.heap with|true=>_|false=>_)=_
  rw[l1]
 unfold openEnds
 rw[e]
 show(topFrom treeTable p w N _).map _=_
 rw[t]
 exact congrArg ag (Prod.ext l2 l3)
end head
noncomputable abbrev pw:Program:=PySem.Challenge.pw_im0049_01
noncomputable def Q6(s:aG):List aG:=match s with|.ClassDef _ _ _ b .. =>b|_=>[]
noncomputable def aU(s:aG):List aG:=match s with|.FunctionDef _ _ b .. =>b|_=>[]
noncomputable def jl(s:aG):Arguments:=match s with|.FunctionDef _ a .. =>a|_=>⟨[],[],bg,[],[],bg,[]⟩
noncomputable def bP(s:aG):Scope:=match s with|.FunctionDef _ _ _ _ _ _ s .. =>s|_=>pw.main.scope
noncomputable def BQ:List Nat→List Nat→Bool
 | [],[]=>ae
 |a::r,b::t=>match aH a b with|true=>BQ r t|false=>af
 |_,_=>af
noncomputable def sI(nm:List Nat):List aG→aG
 | []=> .Pass ⟨0,0,0,0⟩
 |s::r=>match s with
  |.FunctionDef n .. =>(match BQ nm n.cps.toList with|true=>s|false=>sI nm r)
  |.ClassDef n .. =>(match BQ nm n.cps.toList with|true=>s|false=>sI nm r)
  |_=>sI nm r
noncomputable def bh(c m:String):aG:=sI (ai m).cps.toList (Q6 (sI (ai c).cps.toList pw.main.body))
noncomputable def cS(m:String):aG:=sI (ai m).cps.toList pw.main.body
noncomputable def vP:ao:=.str (ai "yaml.error") 194
noncomputable def lZ:ao:=.str (ai "yaml.reader") 321
noncomputable def lp:ao:=.str (ai "yaml.tokens") 464
noncomputable def dY:ao:=.str (ai "yaml.scanner") 941
noncomputable def jN:ao:=.str (ai "law_im0049_01") 1754
noncomputable def c7(s:String)(n:Nat)(v:ao):Str×Nat×ao:=(ai s,n,v)
noncomputable def aP(s:String)(n a:Nat):Str×Nat×ao:=c7 s n (.ref a)
noncomputable def th(P:Z6)(a:Nat)(c:ao)(l:List (Str×Nat×ao))(n:Nat)(r:jX):jX:=(a,⟨c,bg,.dict (l.map λe=>⟨ml P e.1,.str e.1 e.2.1,e.2.2⟩).toArray n,#[]⟩)::r
noncomputable def jO(P:Z6)(a:Nat)(m:ao)(n:Nat)(i:Int)(l:List (Str×Nat×ao))(s:Nat)(t:List (Str×Nat×ao))(z k:Nat)(r:jX):jX:=th P a (.type "dict") (c7 "__module__" n m::c7 "__firstlineno__" (n+4) (.int i (n+3))::(l++aP "__static_attributes__" s (a -1)::(t++[c7 "__doc__" z .none]))) k r
noncomputable def jP(P:Z6)(a n:Nat)(i:Int)(s:String)(r:jX):jX:=jO P a lp n i [c7 "id" (n+6) (.str (ai s) (n+5))] (n+7) [] (n+8) 2 r
noncomputable def yQ(P:Z6)(a:Nat)(m:ao)(n:Nat)(i:Int)(l:List (Str×Nat×ao))(s:Nat)(r:jX):jX:=jO P a m n i l s [aP "__dict__" (s+2) (a+2),aP "__weakref__" (s+4) (a+3)] (s+5) 4 r
noncomputable def l6(a:Nat)(nm:String)(b:ao)(t u:List ao)(s:Option ao)(n:Nat)(w:String)(r:jX):jX:=(a,⟨.type "type",bg,.cls ⟨ai nm,[b],.ref a::b::t,a -1,ai nm,ae,[],u,af,bg,af⟩,#[s,bg,ag (.str (ai nm) n),ag (.str (ai nm) (n+8)),ag (.builtin w),ag (.bool ae)]⟩)::r
noncomputable def lY:ao:=.type "object"
noncomputable def fT(a:Nat)(nm:String)(s n:Nat)(r:jX):jX:=l6 a nm (.ref 213) [lY] [] (ag (.ref s)) n "object.__new__" r
noncomputable def J' :Str:=ai "/claim/cut.py"
noncomputable def DJ(a:Nat)(nm ql:String)(n:Nat)(l c:Int)(q:Nat)(v w:ao)(i:Nat)(r:jX):jX:=(a,⟨.type "code",bg,.fields #[.str (ai nm) n,.str (ai ql) (n+1),.str J' (n+2),.int l 0,.int c 0,.int 0 0,.int 0 0,.int 3 0,.ref q,.bool ae,.int 181 0,.ref (q+1),.none,v,w,.ref (a -1),.int i 0,.int l 0,.str J' (i+1)],#[]⟩)::r
noncomputable def J_(a:Nat)(s:aG)(nm ql:String)(n:Nat)(l c:Int)(i:Nat)(d m:ao)(r:jX):jX:=DJ (a -1) nm ql n l c (a -6) (.ref (a -4)) (.ref (a -3)) i ((a,⟨.type "function",bg,.func (fnX (ai nm) (ai ql) (jl s) (aU s) (bP s) [] d .none .none m bg (.ref (a -1)) .none),#[]⟩)::r)
noncomputable def dm(m:ao)(c s q:String)(a n:Nat)(l i:Int)(j:Nat)(d:ao)(r:jX):jX:=J_ a (bh c s) s q n l i j d m r
noncomputable def kh(m:ao)(s:String)(a n:Nat)(l i:Int)(j:Nat)(r:jX):jX:=J_ a (cS s) s s n l i j .none m r
noncomputable def l7(l:List ao):km:=⟨.type "tuple",bg,.seq l.toArray 0,#[]⟩
noncomputable def ti(a:Nat)(l:List ao)(r:jX):jX:=(a,l7 l)::r
noncomputable def yR(a n c:Nat)(r:jX):jX:=(a,⟨.type "getset_descriptor",bg,.fields #[.str (ai "__dict__") n,.ref c,.builtin "function.__dict__",.builtin "function.__dict__#set"],#[]⟩)::r
noncomputable def vS(a n c:Nat)(r:jX):jX:=(a,⟨.type "getset_descriptor",bg,.fields #[.str (ai "__weakref__") n,.ref c,.builtin "ExceptionGroup.__weakref__",.none],#[]⟩)::r
noncomputable def K(P:Z6):jX:=
 th P 2 .none [c7 "type.__subclasses__.Exception.0" 276 (.int 67 0),c7 "type.__subclasses__.Exception.n" 277 (.int 1 0)] 2<|
 th P 3 (.type "dict") [c7 "__name__" 165 jN,c7 "__doc__" 166 .none,c7 "__package__" 167 .none,c7 "__loader__" 168 (.builtin "__main__.__loader__#opaque"),c7 "__spec__" 169 .none,aP "__annotations__" 170 6,aP "__builtins__" 171 4,c7 "__file__" 173 (.str (ai "/claim/cut.py") 172),c7 "__cached__" 174 .none,aP "_wall" 193 21,aP "Mark" 259 53,aP "YAMLError" 279 67,aP "MarkedYAMLError" 320 95,aP "ReaderError" 362 121,aP "_is_printable" 369 130,aP "Reader" 463 192,aP "Token" 496 213,aP "DirectiveToken" 529 234,aP "DocumentStartToken" 547 246,aP "DocumentEndToken" 565 258,aP "StreamStartToken" 596 278,aP "StreamEndToken" 614 290,aP "BlockSequenceStartToken" 632 302,aP "BlockMappingStartToken" 650 314,aP "BlockEndToken" 668 326,aP "FlowSequenceStartToken" 686 338,aP "FlowMappingStartToken" 704 350,aP "FlowSequenceEndToken" 722 362,aP "FlowMappingEndToken" 740 374,aP "KeyToken" 758 386,aP "ValueToken" 776 398,aP "BlockEntryToken" 794 410,aP "FlowEntryToken" 812 422,aP "AliasToken" 843 441,aP "AnchorToken" 874 460,aP "TagToken" 905 479,aP "ScalarToken" 940 499,aP "ScannerError" 958 511,aP "SimpleKey" 997 530,aP "Scanner" 1753 1048,aP "_law_WORDS" 1764 1051,aP "_law_BLANKS" 1770 1058,aP "_law_ENDS" 1776 1065,aP "_law_ESCAPES" 1782 1072,aP "_law_SINGLE" 1788 1079,aP "_law_FAULTS" 1794 1086,aP "_law_MARKS" 1800 1093,aP "_law_BETWEEN" 1806 1100,aP "_law_piece" 1820 1107,aP "_law_fold" 1827 1114,aP "_law_read" 1850 1121,aP "_law_place" 1857 1128,aP "law" 1863 1133] 53<|
 th P 6 (.type "dict") [] 0<|
 dm vP "Mark" "__init__" "Mark.__init__" 35 208 7 7 218 .none<|
 yQ P 52 vP 203 5 [aP "__init__" 220 35,aP "get_snippet" 236 43,aP "__str__" 245 50] 252<|
 l6 53 "Mark" lY [] [] bg 196 "object.__new__"<|
 yR 54 253 53<|
 vS 55 255 53<|
 jO P 66 vP 267 43 [] 272 [aP "__weakref__" 274 68] 275 3<|
 l6 67 "YAMLError" (.type "Exception") [(.type "BaseException"),lY] [(.ref 95),(.ref 121)] (ag (.ref 58)) 260 "Exception.__new__"<|
 vS 68 273 67<|
 ti 78 [.none,.none,.none,.none,.none]<|
 dm vP "MarkedYAMLError" "__init__" "MarkedYAMLError.__init__" 85 292 47 6 301 (.ref 78)<|
 jO P 94 vP 287 45 [aP "__init__" 303 85,aP "__str__" 311 92] 317 [] 318 2<|
 l6 95 "MarkedYAMLError" (.ref 67) [(.type "Exception"),(.type "BaseException"),lY] [(.ref 511)] (ag (.ref 71)) 280 "Exception.__new__"<|
 jO P 120 lZ 330 68 [aP "__init__" 346 111,aP "__str__" 353 118] 359 [] 360 2<|
 l6 121 "ReaderError" (.ref 67) [(.type "Exception"),(.type "BaseException"),lY] [] (ag (.ref 98)) 323 "Exception.__new__"<|
 kh lZ "_is_printable" 130 363 82 1 367<|
 dm lZ "Reader" "__init__" "Reader.__init__" 144 382 86 2 387 .none<|
 ti 145 [(.int 0 390)]<|
 dm lZ "Reader" "peek" "Reader.peek" 152 391 104 2 396 (.ref 145)<|
 ti 153 [(.int 1 399)]<|
 dm lZ "Reader" "prefix" "Reader.prefix" 160 400 111 2 405 (.ref 153)<|
 ti 161 [(.int 1 408)]<|
 dm lZ "Reader" "forward" "Reader.forward" 168 409 116 2 415 (.ref 161)<|
 dm lZ "Reader" "get_mark" "Reader.get_mark" 175 418 130 1 422 .none<|
 dm lZ "Reader" "check_printable" "Reader.check_printable" 182 425 136 2 433 .none<|
 dm lZ "Reader" "update" "Reader.update" 189 436 142 2 441 .none<|
 yQ P 191 lZ 377 84 [aP "__init__" 389 144,aP "peek" 398 152,aP "prefix" 407 160,aP "forward" 417 168,aP "get_mark" 424 175,aP "check_printable" 435 182,aP "update" 443 189] 456<|
 l6 192 "Reader" lY [] [(.ref 1048)] (ag (.ref 131)) 370 "object.__new__"<|
 yR 193 457 192<|
 vS 194 459 192<|
 dm lp "Token" "__init__" "Token.__init__" 210 478 148 3 484 .none<|
 yQ P 212 lp 473 146 [aP "__init__" 486 210] 489<|
 l6 213 "Token" lY [] [(.ref 234),(.ref 246),(.ref 258),(.ref 278),(.ref 290),(.ref 302),(.ref 314),(.ref 326),(.ref 338),(.ref 350),(.ref 362),(.ref 374),(.ref 386),(.ref 398),(.ref 410),(.ref 422),(.ref 441),(.ref 460),(.ref 479),(.ref 499)] (ag (.ref 197)) 466 "object.__new__"<|
 yR 214 490 213<|
 vS 215 492 213<|
 jO P 233 lp 504 151 [c7 "id" 510 (.str (ai "<directive>") 509),aP "__init__" 521 231] 526 [] 527 2<|
 fT 234 "DirectiveToken" 218 497<|
 jP P 245 537 159 "<document start>"<|
 fT 246 "DocumentStartToken" 237 530<|
 jP P 257 555 161 "<document end>"<|
 fT 258 "DocumentEndToken" 249 548<|
 ti 268 [.none,.none,.none]<|
 dm lp "StreamStartToken" "__init__" "StreamStartToken.__init__" 275 580 166 4 587 (.ref 268)<|
 jO P 277 lp 573 163 [c7 "id" 579 (.str (ai "<stream start>") 578),aP "__init__" 589 275] 593 [] 594 2<|
 fT 278 "StreamStartToken" 261 566<|
 jP P 289 604 170 "<stream end>"<|
 fT 290 "StreamEndToken" 281 597<|
 jP P 301 622 172 "<block sequence start>"<|
 fT 302 "BlockSequenceStartToken" 293 615<|
 jP P 313 640 174 "<block mapping start>"<|
 fT 314 "BlockMappingStartToken" 305 633<|
 jP P 325 658 176 "<block end>"<|
 fT 326 "BlockEndToken" 317 651<|
 jP P 337 676 178 "["<|
 fT 338 "FlowSequenceStartToken" 329 669<|
 jP P 349 694 180 "{"<|
 fT 350 "FlowMappingStartToken" 341 687<|
 jP P 361 712 182 "]"<|
 fT 362 "FlowSequenceEndToken" 353 705<|
 jP P 373 730 184 "}"<|
 fT 374 "FlowMappingEndToken" 365 723<|
 fT 386 "KeyToken" 377 741<|
 jP P 397 766 188 ":"<|
 fT 398 "ValueToken" 389 759<|
 jP P 409 784 190 "-"<|
 fT 410 "BlockEntryToken" 401 777<|
 jP P 421 802 192 ","<|
 fT 422 "FlowEntryToken" 413 795<|
 jO P 440 lp 820 194 [c7 "id" 826 (.str (ai "<alias>") 825),aP "__init__" 836 438] 840 [] 841 2<|
 fT 441 "AliasToken" 425 813<|
 jO P 459 lp 851 201 [c7 "id" 857 (.str (ai "<anchor>") 856),aP "__init__" 867 457] 871 [] 872 2<|
 fT 460 "AnchorToken" 444 844<|
 jO P 478 lp 882 208 [c7 "id" 888 (.str (ai "<tag>") 887),aP "__init__" 898 476] 902 [] 903 2<|
 fT 479 "TagToken" 463 875<|
 ti 489 [.none]<|
 dm lp "ScalarToken" "__init__" "ScalarToken.__init__" 496 920 218 6 929 (.ref 489)<|
 jO P 498 lp 913 215 [c7 "id" 919 (.str (ai "<scalar>") 918),aP "__init__" 931 496] 937 [] 938 2<|
 fT 499 "ScalarToken" 482 906<|
 jO P 510 dY 950 225 [] 955 [] 956 2<|
 l6 511 "ScannerError" (.ref 95) [(.ref 67),(.type "Exception"),(.type "BaseException"),lY] [] (ag (.ref 502)) 943 "Exception.__new__"<|
 dm dY "SimpleKey" "__init__" "SimpleKey.__init__" 527 971 229 7 981 .none<|
 yQ P 529 dY 966 227 [aP "__init__" 983 527] 990<|
 l6 530 "SimpleKey" lY [] [] bg 959 "object.__new__"<|
 yR 531 991 530<|
 vS 532 993 530<|
 .cons (538,⟨(.type "cell"),bg,(.cell (ag (.ref 1048))),#[]⟩)<|
 DJ 549 "__init__" "Scanner.__init__" 1010 238 2 544 (.ref 546) (.ref 547) 1016<|
 .cons (550,⟨(.type "function"),bg,(.func (fnX (ai "__init__") (ai "Scanner.__init__") (jl (bh "Scanner" "__init__")) (aU (bh "Scanner" "__init__")) (bP (bh "Scanner" "__init__")) [((ai "__class__"),538)] .none .none .none dY bg (.ref 549) (.ref 543))),#[]⟩)<|
 dm dY "Scanner" "get_token" "Scanner.get_token" 573 1034 256 1 1038 .none<|
 dm dY "Scanner" "need_more_tokens" "Scanner.need_more_tokens" 580 1041 263 1 1045 .none<|
 dm dY "Scanner" "fetch_more_tokens" "Scanner.fetch_more_tokens" 587 1048 272 1 1053 .none<|
 dm dY "Scanner" "next_possible_simple_key" "Scanner.next_possible_simple_key" 594 1056 319 1 1063 .none<|
 dm dY "Scanner" "stale_possible_simple_keys" "Scanner.stale_possible_simple_keys" 601 1066 327 1 1072 .none<|
 dm dY "Scanner" "save_possible_simple_key" "Scanner.save_possible_simple_key" 608 1075 335 1 1082 .none<|
 dm dY "Scanner" "remove_possible_simple_key" "Scanner.remove_possible_simple_key" 615 1085 343 1 1090 .none<|
 dm dY "Scanner" "unwind_indent" "Scanner.unwind_indent" 622 1093 350 2 1099 .none<|
 dm dY "Scanner" "add_indent" "Scanner.add_indent" 629 1102 358 2 1107 .none<|
 dm dY "Scanner" "fetch_stream_start" "Scanner.fetch_stream_start" 636 1110 365 1 1115 .none<|
 dm dY "Scanner" "fetch_stream_end" "Scanner.fetch_stream_end" 643 1118 369 1 1123 .none<|
 dm dY "Scanner" "fetch_block_entry" "Scanner.fetch_block_entry" 727 1214 437 1 1221 .none<|
 dm dY "Scanner" "fetch_single" "Scanner.fetch_single" 790 1288 517 1 1292 .none<|
 dm dY "Scanner" "fetch_double" "Scanner.fetch_double" 797 1295 520 1 1299 .none<|
 dm dY "Scanner" "fetch_flow_scalar" "Scanner.fetch_flow_scalar" 804 1302 523 2 1307 .none<|
 dm dY "Scanner" "check_document_start" "Scanner.check_document_start" 825 1324 537 1 1328 .none<|
 dm dY "Scanner" "check_block_entry" "Scanner.check_block_entry" 839 1338 547 1 1342 .none<|
 dm dY "Scanner" "scan_to_next_token" "Scanner.scan_to_next_token" 867 1367 566 1 1372 .none<|
 dm dY "Scanner" "scan_flow_scalar" "Scanner.scan_flow_scalar" 979 1548 846 2 1558 .none<|
 th P 980 (.type "dict") [c7 "0" 1561 (.str ⟨#[0]⟩ 1562),c7 "a" 1564 (.str ⟨#[7]⟩ 1565),c7 "b" 1567 (.str ⟨#[8]⟩ 1568),c7 "t" 1570 (.str ⟨#[9]⟩ 1571),(⟨#[9]⟩,1573,(.str ⟨#[9]⟩ 1574)),c7 "n" 1576 (.str ⟨#[10]⟩ 1577),c7 "v" 1579 (.str ⟨#[11]⟩ 1580),c7 "f" 1582 (.str ⟨#[12]⟩ 1583),c7 "r" 1585 (.str ⟨#[13]⟩ 1586),c7 "e" 1588 (.str ⟨#[27]⟩ 1589),c7 " " 1591 (.str (ai " ") 1592),c7 "\"" 1594 (.str (ai "\"") 1595),c7 "\\" 1597 (.str (ai "\\") 1598),c7 "/" 1600 (.str (ai "/") 1601),c7 "N" 1603 (.str ⟨#[133]⟩ 1604),c7 "_" 1606 (.str ⟨#[160]⟩ 1607),c7 "L" 1609 (.str ⟨#[8232]⟩ 1610),c7 "P" 1612 (.str ⟨#[8233]⟩ 1613)] 18<|
 th P 982 (.type "dict") [c7 "x" 1616 (.int 2 1617),c7 "u" 1618 (.int 4 1619),c7 "U" 1620 (.int 8 1621)] 3<|
 dm dY "Scanner" "scan_flow_scalar_non_spaces" "Scanner.scan_flow_scalar_non_spaces" 989 1626 865 3 1637 .none<|
 dm dY "Scanner" "scan_flow_scalar_spaces" "Scanner.scan_flow_scalar_spaces" 996 1640 904 3 1652 .none<|
 dm dY "Scanner" "scan_flow_scalar_breaks" "Scanner.scan_flow_scalar_breaks" 1003 1655 926 3 1663 .none<|
 dm dY "Scanner" "scan_line_break" "Scanner.scan_line_break" 1045 1733 1053 1 1738 .none<|
 jO P 1047 dY 1005 236 [aP "__init__" 1018 550,aP "check_token" 1026 559,aP "peek_token" 1033 566,aP "get_token" 1040 573,aP "need_more_tokens" 1047 580,aP "fetch_more_tokens" 1055 587,aP "next_possible_simple_key" 1065 594,aP "stale_possible_simple_keys" 1074 601,aP "save_possible_simple_key" 1084 608,aP "remove_possible_simple_key" 1092 615,aP "unwind_indent" 1101 622,aP "add_indent" 1109 629,aP "fetch_stream_start" 1117 636,aP "fetch_stream_end" 1125 643,aP "fetch_directive" 1132 650,aP "fetch_document_start" 1139 657,aP "fetch_document_end" 1146 664,aP "fetch_document_indicator" 1156 671,aP "fetch_flow_sequence_start" 1163 678,aP "fetch_flow_mapping_start" 1170 685,aP "fetch_flow_collection_start" 1180 692,aP "fetch_flow_sequence_end" 1187 699,aP "fetch_flow_mapping_end" 1194 706,aP "fetch_flow_collection_end" 1204 713,aP "fetch_flow_entry" 1213 720,aP "fetch_block_entry" 1223 727,aP "fetch_key" 1233 734,aP "fetch_value" 1244 741,aP "fetch_alias" 1251 748,aP "fetch_anchor" 1258 755,aP "fetch_tag" 1265 762,aP "fetch_literal" 1272 769,aP "fetch_folded" 1279 776,aP "fetch_block_scalar" 1287 783,aP "fetch_single" 1294 790,aP "fetch_double" 1301 797,aP "fetch_flow_scalar" 1309 804,aP "fetch_plain" 1316 811,aP "check_directive" 1323 818,aP "check_document_start" 1330 825,aP "check_document_end" 1337 832,aP "check_block_entry" 1344 839,aP "check_key" 1351 846,aP "check_value" 1358 853,aP "check_plain" 1366 860,aP "scan_to_next_token" 1374 867,aP "scan_directive" 1385 874,aP "scan_directive_name" 1396 881,aP "scan_yaml_directive_value" 1406 888,aP "scan_yaml_directive_number" 1417 895,aP "scan_tag_directive_value" 1427 902,aP "scan_tag_directive_handle" 1437 909,aP "scan_tag_directive_prefix" 1447 916,aP "scan_directive_ignored_line" 1456 923,aP "scan_anchor" 1471 930,aP "scan_tag" 1486 937,aP "scan_block_scalar" 1507 944,aP "scan_block_scalar_indicators" 1518 951,aP "scan_block_scalar_ignored_line" 1527 958,aP "scan_block_scalar_indentation" 1537 965,aP "scan_block_scalar_breaks" 1547 972,aP "scan_flow_scalar" 1560 979,aP "ESCAPE_REPLACEMENTS" 1615 980,aP "ESCAPE_CODES" 1625 982,aP "scan_flow_scalar_non_spaces" 1639 989,aP "scan_flow_scalar_spaces" 1654 996,aP "scan_flow_scalar_breaks" 1665 1003,aP "scan_plain" 1679 1010,aP "scan_plain_spaces" 1695 1017,aP "scan_tag_handle" 1707 1024,aP "scan_tag_uri" 1719 1031,aP "scan_uri_escapes" 1732 1038,aP "scan_line_break" 1740 1045] 1749 [] 1751 3<|
 l6 1048 "Scanner" (.ref 192) [lY] [] (ag (.ref 535)) 998 "object.__new__"<|
 .cons (1051,⟨(.type "list"),bg,(.seq #[(.str (ai "a") 1756),(.str (ai "bc") 1757),(.str (ai "---") 1758),(.str (ai "...") 1759),(.str ⟨#[233]⟩ 1760),(.str ⟨#[128512]⟩ 1761),(.str ⟨#[65279]⟩ 1762),(.str (ai "#:") 1763)] 0),#[]⟩)<|
 kh jN "_law_BLANKS" 1058 1765 1067 0 1768<|
 kh jN "_law_ENDS" 1065 1771 1069 0 1774<|
 kh jN "_law_ESCAPES" 1072 1777 1071 0 1780<|
 kh jN "_law_SINGLE" 1079 1783 1073 0 1786<|
 kh jN "_law_FAULTS" 1086 1789 1075 0 1792<|
 kh jN "_law_MARKS" 1093 1795 1077 0 1798<|
 kh jN "_law_BETWEEN" 1100 1801 1079 0 1804<|
 kh jN "_law_piece" 1107 1807 1081 2 1818<|
 kh jN "_law_fold" 1114 1821 1101 1 1825<|
 kh jN "_law_read" 1121 1828 1105 2 1848<|
 kh jN "_law_place" 1128 1851 1160 1 1855<|
 DJ 1132 "law" "law" 1858 1162 1 1129 .none .none 1861<|
 .cons (1133,⟨(.type "function"),bg,(.func (fnX (ai "law") (ai "law") (jl (cS "law")) (aU (cS "law")) (bP (cS "law")) [] .none .none .none jN bg (.ref 1132) .none)),#[]⟩)<|
 []
noncomputable def q:Program:=view pw [48]
noncomputable def loose:List Str:=[ai "_wall",ai "Mark",ai "YAMLError",ai "MarkedYAMLError",ai "ReaderError",ai "_is_printable",ai "Reader",ai "Token",ai "DirectiveToken",ai "DocumentStartToken",ai "DocumentEndToken",ai "StreamStartToken",ai "StreamEndToken",ai "BlockSequenceStartToken",ai "BlockMappingStartToken",ai "BlockEndToken",ai "FlowSequenceStartToken",ai "FlowMappingStartToken",ai "FlowSequenceEndToken",ai "FlowMappingEndToken",ai "KeyToken",ai "ValueToken",ai "BlockEntryToken",ai "FlowEntryToken",ai "AliasToken",ai "AnchorToken",ai "TagToken",ai "ScalarToken",ai "ScannerError",ai "SimpleKey",ai "Scanner",ai "_law_WORDS",ai "_law_BLANKS",ai "_law_ENDS",ai "_law_ESCAPES",ai "_law_SINGLE",ai "_law_FAULTS",ai "_law_MARKS",ai "_law_BETWEEN",ai "_law_piece",ai "_law_fold",ai "_law_read",ai "_law_place"]
noncomputable def uE:List aQ:=[2,3,6,34,35,52,53,54,55,66,67,68,78,84,85,94,95,120,121,129,130,143,144,145,151,152,153,159,160,161,167,168,174,175,181,182,188,189,191,192,193,194,209,210,212,213,214,215,233,234,245,246,257,258,268,274,275,277,278,289,290,301,302,313,314,325,326,337,338,349,350,361,362,373,374,386,397,398,409,410,421,422,440,441,459,460,478,479,489,495,496,498,499,510,511,526,527,529,530,531,532,538,549,550,572,573,579,580,586,587,593,594,600,601,607,608,614,615,621,622,628,629,635,636,642,643,726,727,789,790,796,797,803,804,824,825,838,839,866,867,978,979,980,982,988,989,995,996,1002,1003,1044,1045,1047,1048,1051,1057,1058,1064,1065,1071,1072,1078,1079,1085,1086,1092,1093,1099,1100,1106,1107,1113,1114,1120,1121,1127,1128,1132,1133]
theorem Bb:∀P,uE=(K P).map (·.1):=λ_=>by kernel_rfl
noncomputable def H:Hook:=kHook K uE Bb
noncomputable def pb(s:ay):Bool:=xlAt q [] s&&recOk (RowW.records (OpenRow.toRowW (OpenLaw.row ku))) s
def qe(b:Bool):Prop:=∀(w:World)(os:OsState),(pU (stepT (denote treeTable) pw (w.withFollow "special-get-raises" b)) (stepOk 11 (ag (.ref 6))) 11000 (s0 (w.withFollow "special-get-raises" b) os) (topStub pw)).map (λs=>(staticsOk (importedModules pw.main.body) (boot_heap (w.withFollow "special-get-raises" b).params) s.abs.heap&&namesBound pw s.abs.heap&&gensDone s.abs&&laidKept (boot_heap (w.withFollow "special-get-raises" b).params) s.abs.heap,openSeen q loose (importedModules pw.main.body) pb ae s.abs))=ag (ae,openGood q loose)
def qf(b:Bool):Prop:=∀(w:World)(os:OsState),(pU (stepT (denote treeTable) pw (w.withFollow "special-get-raises" b)) (stepOk 11 (ag (.ref 6))) 11000 (s0 (w.withFollow "special-get-raises" b) os) (topStub pw)).map (λs=>Hook.obs H s.abs)=ag (Hook.val H (w.withFollow "special-get-raises" b))
theorem CG:qe af:=by
 unfold qe pb
 intro w os
 rw[EN,EO,EP,EB,EC]
 kernel_rfl
theorem CI:qf af:=by
 unfold qf
 intro w os
 rw[EN,EO,EP]
 kernel_rfl
theorem CH:qe ae:=by
 unfold qe pb
 intro w os
 rw[EN,EO,EP,EB,EC]
 kernel_rfl
theorem CJ:qf ae:=by
 unfold qf
 intro w os
 rw[EN,EO,EP]
 kernel_rfl
theorem vy{α β γ δ:Type}{o:Option α}{f:α→β×γ}{g:α→δ}{x:β}{y:γ}{z:δ}(h:o.map f=ag (x,y))(k:o.map g=ag z):o.map (λs=>((f s).1,(f s).2,g s))=ag (x,y,z):=by
 cases o with
 |none=>cases h
 |some a=>
  have h:=fX h
  have k:=fX k
  show ag ((f a).1,(f a).2,g a)=_
  rw[h,k]
theorem CL:opening pw=plainProg pw.main.scope.names:=by kernel_rfl
theorem CK:∀s,fenceModules? pw s=ag s:=λ_=>by kernel_rfl
theorem Jh:LeftO pw q loose pb (Hook.obs H) (Hook.val H) 22100:=
 Kf (M:=11000) (boot_open CL (by decide) CK) (by decide) (byRow2 "special-get-raises" (λw os=>vy (CG w os) (CI w os)) (λw os=>vy (CH w os) (CJ w os)))
theorem sd1:PySem.W.Fast.tw11788848310118352699 pw.main=ae:=by kernel_rfl
theorem sd2:((Z2 pw.main.body).isEmpty||PySem.W.Fast.tw12862048085361865435 (Z2 pw.main.body) pw.main.body)=ae:=by kernel_rfl
theorem sd3:PySem.W.Fast.tw8377067652309620493 pw=ae:=by kernel_rfl
theorem sd4:PySem.W.R.allR (PySem.W.Fast.tw18344453789297297638 pw) (λn=>!PySem.W.Fast.tw3471404346716756564 PySem.W.Fast.tw14412699480532031325 n)=ae:=by kernel_rfl
theorem sd5:PySem.W.Fast.tw8326940854005059898 {strict:=!PySem.W.R.allR (PySem.W.Fast.tw5923862056798008813 pw.main.body) (PySem.W.Fast.tw3471404346716756564 PySem.W.Fast.tw17691160309236699985),foot:=bg,bare:=PySem.W.R.filterR (PySem.W.Fast.tw13343964577679436407 pw pw.main.body) [⟨⟨[118,97,114,115]⟩⟩,⟨⟨[100,105,114]⟩⟩,⟨⟨[108,111,99,97,108,115]⟩⟩]} pw.main.body=ae:=by kernel_rfl
theorem sd6:PySem.W.Fast.tw17119622794617984870 pw pw.main.body (λ_ n=>PySem.W.Fast.tw17868728402115742887 n)=ae:=by kernel_rfl
theorem ae5:PySem.W.Fast.tw12908688711261696721 pw=ae:=look_both (look_both (look_both (look_both (look_both sd1 sd2) sd3) sd4) sd5) sd6
theorem ae6:PySem.W.Fast.tw2436336058641802641 (Z3 ku)=ae:=look_both (look_both (look_both (look_both (look_both (look_both (look_both (look_both (look_both (look_both (look_both (look_both (look_both (ae5) (by kernel_rfl)) (by kernel_rfl)) (by kernel_rfl)) (by kernel_rfl)) (by kernel_rfl)) (by kernel_rfl)) (by kernel_rfl)) (by kernel_rfl)) (by kernel_rfl)) (by kernel_rfl)) (by kernel_rfl)) (by kernel_rfl)) (by kernel_rfl)
theorem ae7:PySem.W.Fast.tw17960256430627541270 (Z3 ku)=ae:=look_both (look_both (ae6) (by kernel_rfl)) (by kernel_rfl)
theorem ae4:PySem.W.Fast.tw9446332074065402090 ku=ae:=look_both (look_both (look_both (look_both (look_both (look_both (look_both (look_both (look_both (look_both (look_both (look_both (look_both (look_both (look_both (look_both (look_both (look_both (ae7) (by kernel_rfl)) (by kernel_rfl)) (by kernel_rfl)) (by kernel_rfl)) (by kernel_rfl)) (by kernel_rfl)) (by kernel_rfl)) (by kernel_rfl)) (by kernel_rfl)) (by kernel_rfl)) (by kernel_rfl)) (by kernel_rfl)) (by kernel_rfl)) (by kernel_rfl)) (by kernel_rfl)) (by kernel_rfl)) (by kernel_rfl)) (by kernel_rfl)
theorem ae3:OpenLaw.wellSaid ku=ae:=PySem.W.Fast.te9446332074065402090▸ae4
inductive Bi where
 |len|Dy|chr|int|list|str|range|enum|max
noncomputable def Bi.val(b:Bi):ao:=Bi.rec (motive:=λ_=>ao) (.builtin "len") (.builtin "isinstance") (.builtin "chr") (.type "int") (.type "list") (.type "str") (.type "range") (.type "enumerate") (.builtin "max") b
inductive V where
 |none|bool (b:Bool)|int (i:Int)|str (s:List Nat)
 |tup (l:List V)|lst (l:List V)
 |obj (C:aQ) (fs:List (Str×V))
 |ak
 |junk
 |bi (b:Bi)
 |eV (v:ao)
 |tab (l:List (Str×V))
inductive FV where
 |v (x:V)|own (l:List V)|keys (l:List (Int×V))
abbrev LV:=FV
abbrev FS:=List (Str×FV)
abbrev Cells:=List (aQ×km)
noncomputable abbrev fJ(its:Array ao)(n:Nat):km:={cls:=.type "tuple",data:=.seq its n}
def O8(P:Z6)(name:Str)(e:DictEntry):Prop:=e.hash=ml P name∧∃t,e.key=.str name t
noncomputable def aB:List Nat→List Nat→Bool
 | [],[]=>ae
 |a::r,b::t=>match aH a b with|true=>aB r t|false=>af
 | [],_::_=>af
 |_::_,[]=>af
theorem DQ:∀a:List Nat,aB a a=ae:=λa=>by
 induction a with
 |nil=>rfl
 |cons x r ih=>unfold aB;rw[Nat.beq_refl];exact ih
theorem pq:∀{a b:List Nat},aB a b=ae→a=b:=λ{a}=>by
 induction a with
 |nil=>intro b h;cases b with
  |nil=>rfl
  |cons=>cases h
 |cons x r ih=>
  intro b h
  cases b with
  |nil=>cases h
  |cons y t=>
   unfold aB at h
   cases q:aH x y with
   |true=>rw[q]at h;rw[bG q,ih h]
   |false=>rw[q]at h;cases h
theorem yT{a b:List Nat}:aB a b=ae↔a=b:=⟨pq,λe=>e▸DQ a⟩
noncomputable def seq(a b:Str):Bool:=aB a.cps.toList b.cps.toList
theorem eN{a b:Str}:seq a b=ae↔a=b:=by
 unfold seq
 rw[yT]
 constructor
 ·intro h;cases a;cases b;congr;exact Array.toList_inj.mp h
 ·rintro rfl;rfl
theorem Ae(a:Str):seq a a=ae:=DQ _
theorem MN{a b:Str}(q:seq a b=af):b≠a:=λe=>by rw[eN.mpr e.symm]at q;cases q
theorem tV{a b:Str}(q:a≠b):seq a b=af:=by
 cases h:seq a b with
 |true=>exact absurd (eN.mp h) q
 |false=>rfl
noncomputable def aV{α:Type}(x:Str):List (Str×α)→Option α
 | []=>bg
 |(y,v)::r=>match seq x y with|true=>ag v|false=>aV x r
noncomputable def di{α:Type}(x:Str)(v:α):List (Str×α)→List (Str×α)
 | []=>[(x,v)]
 |(y,u)::r=>match seq x y with|true=>(y,v)::r|false=>(y,u)::di x v r
noncomputable def iU{α:Type}(x:Str):List (Str×α)→List (Str×α)
 | []=>[]
 |(y,u)::r=>match seq x y with|true=>iU x r|false=>(y,u)::iU x r
section
variable{α:Type}{x y:Str}{v:α}
theorem Kj{l:List (Str×α)}(h:aV x l=ag v):(x,v)∈l:=by
 induction l with
 |nil=>cases h
 |cons p r ih=>
  unfold aV at h
  cases q:seq x p.1 with
  |true=>rw[q]at h;cases h;rw[eN.mp q];exact .head _
  |false=>rw[q]at h;exact .tail _ (ih h)
theorem l9(x:Str)(l:List (Str×α)):aV x l=l.lookup x:=by
 induction l with
 |nil=>rfl
 |cons p r ih=>
  unfold aV
  rw[List.lookup_cons]
  cases h:seq x p.1 with
  |true=>rw[eN.mp h,beq_self_eq_true]
  |false=>rw[beq_false_of_ne (MN h).symm];exact ih
theorem look_same(l:List (Str×α)):aV x (di x v l)=ag v:=by
 induction l with
 |nil=>unfold di aV;rw[Ae]
 |cons p r ih=>
  unfold di
  cases q:seq x p.1 with
  |true=>unfold aV;rw[q]
  |false=>unfold aV;rw[q];exact ih
theorem DX(h:y≠x)(l:List (Str×α)):aV y (di x v l)=aV y l:=by
 induction l with
 |nil=>unfold di aV;rw[tV h];rfl
 |cons p r ih=>
  unfold di
  cases q:seq x p.1 with
  |true=>rw[eN.mp q]at h;unfold aV;rw[tV h]
  |false=>unfold aV;rw[ih]
theorem lr(l:List (Str×α)){z:α}(h:aV y (di x v l)=ag z):(y=x∧z=v)∨(y≠x∧aV y l=ag z):=by
 by_cases e:y=x
 ·subst e;rw[look_same]at h;exact .inl ⟨rfl,(fX h).symm⟩
 ·rw[DX e]at h;exact .inr ⟨e,h⟩
theorem DW{l:List (Str×α)}:∀{z:α},aV y (iU x l)=ag z→y≠x∧aV y l=ag z:=by
 induction l with
 |nil=>intro z h;cases h
 |cons p r ih=>
  intro z h
  unfold iU at h
  cases q:seq x p.1 with
  |true=>
   rw[q]at h
   obtain⟨a,b⟩:=ih h
   refine⟨a,?_⟩
   unfold aV;rw[tV (by rw[←eN.mp q];exact a)];exact b
  |false=>
   rw[q]at h
   unfold aV at h
   cases q2:seq y p.1 with
   |true=>rw[q2]at h;refine⟨λe=>?_,by unfold aV;rw[q2];exact h⟩;subst e;rw[q2]at q;cases q
   |false=>rw[q2]at h;obtain⟨a,b⟩:=ih h;exact⟨a,by unfold aV;rw[q2];exact b⟩
theorem z6(l:List (Str×α)):l.length≤(di x v l).length∧(aV x l=bg→(di x v l).length=l.length+1):=by
 induction l with
 |nil=>exact⟨gx _,λ_=>rfl⟩
 |cons p r ih=>
  unfold di aV
  cases q:seq x p.1 with
  |true=>exact⟨eF _,λh=>by cases h⟩
  |false=>exact⟨jy ih.1,λh=>congrArg Z5 (ih.2 h)⟩
end
theorem yH(nm a:Str)(t:Tok):(rp nm t).isStr a=seq a nm:=by
 show(nm==a)=_
 cases q:seq a nm with
 |true=>rw[eN.mp q];exact beq_self_eq_true _
 |false=>exact beq_false_of_ne (MN q)
noncomputable def gl(es:List DictEntry)(a:Str):Option ao:=(es.find? (·.key.isStr a)).map (·.val)
theorem Cs{es:List DictEntry}{a:Str}{v:ao}(h:gl es a=ag v):getL a es=ag (ag v):=by
 unfold gl at h
 unfold getL
 cases q:es.find? (·.key.isStr a)with
 |none=>rw[q]at h;cases h
 |some e=>rw[q]at h;cases h;rfl
theorem gl_none{es:List DictEntry}{a:Str}(h:gl es a=bg)(k:es.any (·.refKey)=af):getL a es=ag bg:=by
 unfold gl at h
 unfold getL
 cases q:es.find? (·.key.isStr a)with
 |none=>dsimp only;rw[k];rfl
 |some e=>rw[q]at h;cases h
theorem vg{a b:Str}{z:Int}{t:Tok}{v:ao}(es:List DictEntry):gl (putL a z (.str a t) v es) b=if b=a then ag v else gl es b:=by
 induction es with
 |nil=>
  unfold putL gl
  rw[pM,yH]
  by_cases e:b=a
  ·rw[if_pos e,e,Ae];rfl
  ·rw[if_neg e,tV e]
 |cons e r ih=>
  unfold putL
  unfold gl at ih⊢
  cases q:e.key.isStr a with
  |true=>
   rw[if_pos rfl,pM]
   by_cases h:b=a
   ·rw[if_pos h,h];dsimp only;rw[q];rfl
   ·rw[if_neg h,pM]
    have:e.key.isStr b=af:=by
     cases k:e.key with
     |str nm t' =>
      rw[k,yH]at q
      rw[yH,←eN.mp q];exact tV h
     |_=>rw[k]at q;cases q
    dsimp only;rw[this]
  |false=>
   rw[if_neg (by rw[EA];exact id),pM]
   by_cases h:b=a
   ·rw[h,pM,q];rw[h]at ih;exact ih
   ·rw[pM]
    cases e.key.isStr b with
    |true=>rw[if_neg h]
    |false=>exact ih
theorem abj{a:Str}{z:Int}{t:Tok}{v:ao}(es:List DictEntry)(h:es.any (·.refKey)=af):(putL a z (.str a t) v es).any (·.refKey)=af:=by
 induction es with
 |nil=>rfl
 |cons e r ih=>
  rw[wg]at h
  obtain⟨h1,h2⟩:=Bool.or_eq_false_iff.mp h
  unfold putL
  cases e.key.isStr a with
  |true=>rw[if_pos rfl,wg];exact Bool.or_eq_false_iff.mpr ⟨h1,h2⟩
  |false=>rw[if_neg (by rw[EA];exact id),wg];exact Bool.or_eq_false_iff.mpr ⟨h1,ih h2⟩
theorem Mg{a:Str}{z:Int}{k v:ao}(es:List DictEntry):(putL a z k v es).length≤es.length+1∧((gl es a).isSome=ae→(putL a z k v es).length=es.length):=by
 induction es with
 |nil=>exact⟨eF _,λh=>by cases h⟩
 |cons e r ih=>
  unfold putL
  unfold gl at ih⊢
  rw[pM]
  cases e.key.isStr a with
  |true=>rw[if_pos rfl];exact⟨pQ _,λ_=>rfl⟩
  |false=>rw[if_neg (by rw[EA];exact id)];exact⟨jy ih.1,λh=>congrArg Z5 (ih.2 h)⟩
structure Wd where
 prog:Program
 w:World
 K:jX
 p:Program
 loose:List Str
 mg:Str→Option ao
 mb:Str→Option ao
def Wd.At(W:Wd)(fz:Cells)(a:aQ)(o:km):Prop:=(a,o)∈fz∨W.K.lookup a=ag o
noncomputable abbrev Wd.M(W:Wd):Model:=model W.prog W.w
section
variable(W:Wd)(fz:Cells)
inductive bL(i:Int):ao→Prop
 |mk (t:Tok):bL i (.int i t)
inductive cj(s:List Nat):ao→Prop
 |mk (h:s.length≤16777216) (t:Tok):cj s (.str ⟨s.toArray⟩ t)
inductive r9:ao→Prop
 |mk (s:Str) (t:Tok):r9 (.str s t)
inductive cf(mk:Array ao→Nat→km)(r:List ao→Prop):ao→Prop
 |mk (a:aQ) (vs:Array ao) (n:Nat) (h:W.At fz a (mk vs n)) (k:r vs.toList):cf mk r (.ref a)
inductive oy(C:aQ)(r:List DictEntry→Prop):ao→Prop
 |mk (a:aQ) (o:km) (d:aQ) (es:List DictEntry) (n:Nat) (h:W.At fz a o) (c:o.cls=.ref C) (e:o.dict=ag d) (z:notCls o=ae) (h' :W.At fz d (dictOf es n)) (k:r es):oy C r (.ref a)
inductive qi(r:List DictEntry→Prop):ao→Prop
 |mk (a:aQ) (es:List DictEntry) (n:Nat) (h:W.At fz a (dictOf es n)) (z:(a==sysModules)=af) (k:r es):qi r (.ref a)
inductive iQ(o:Option ao)(p:ao→Prop):Prop
 |mk (v:ao) (e:o=ag v) (h:p v)
inductive dH{α:Type}(p:α→Prop)(r:List α→Prop):List α→Prop
 |mk (v:α) (l:List α) (h:p v) (k:r l):dH p r (v::l)
end
def Only{α:Type}(fs:List (Str×α))(es:List DictEntry):Prop:=es.any (·.refKey)=af∧∀a,aV a fs=bg→gl es a=bg
mutual
def VR(W:Wd)(fz:Cells)(x:aQ):V→ao→Prop
 |.none,v=>v=.none
 |.bool b,v=>v=.bool b
 |.int i,v=>bL i v
 |.str s,v=>cj s v
 |.tup l,v=>cf W fz fJ (aS W fz x l) v
 |.lst l,v=>cf W fz listOf (aS W fz x l) v
 |.obj C fs,v=>oy W fz C (λes=>Only fs es∧gd W fz x fs (gl es)) v
 |.ak,v=>v=.ref x
 |.junk,v=>r9 v
 |.bi b,v=>v=b.val
 |.eV u,v=>v=u∧handedIn u=ae
 |.tab fs,v=>qi W fz (gc W fz x fs) v
def aS(W:Wd)(fz:Cells)(x:aQ):List V→List ao→Prop
 | [],vs=>vs=[]
 |y::l,vs=>dH (VR W fz x y) (aS W fz x l) vs
def gd(W:Wd)(fz:Cells)(x:aQ):List (Str×V)→(Str→Option ao)→Prop
 | [],_=>True
 |(nm,y)::l,g=>iQ (g nm) (VR W fz x y)∧gd W fz x l g
def gc(W:Wd)(fz:Cells)(x:aQ):List (Str×V)→List DictEntry→Prop
 | [],es=>es=[]
 |(nm,y)::l,es=>dH (λe=>O8 W.w.params nm e∧VR W fz x y e.val) (gc W fz x l) es
end
noncomputable abbrev Sub(fz bz:Cells):Prop:=∀p∈fz,p∈bz
theorem Sub.trans{a b d:Cells}(h:Sub a b)(k:Sub b d):Sub a d:=λp hp=>k p (h p hp)
theorem Sub.refl(a:Cells):Sub a a:=λ_ hp=>hp
theorem Sub.cons(p:aQ×km)(fz:Cells):Sub fz (p::fz):=λ_ hq=> .tail _ hq
theorem Sub.nil(fz:Cells):Sub [] fz:=λ_ hp=>by cases hp
section
variable{W:Wd}{fz bz:Cells}{x:aQ}
theorem Wd.At.up(h:Sub fz bz){a:aQ}{o:km}(k:W.At fz a o):W.At bz a o:=k.imp (h _) id
theorem Wd.At.here(a:aQ)(o:km):W.At ((a,o)::fz) a o:=.inl (.head _)
theorem cf.up(h:Sub fz bz){mk}{r r' :List ao→Prop}(k:∀vs,r vs→r' vs):∀{v:ao},cf W fz mk r v→cf W bz mk r' v
 |_,.mk a vs n e q=> .mk a vs n (e.up h) (k _ q)
theorem dH.up{α:Type}{p p' :α→Prop}{r r' :List α→Prop}(h:∀v,p v→p' v)(k:∀l,r l→r' l):∀{l:List α},dH p r l→dH p' r' l
 |_,.mk v l a b=> .mk v l (h _ a) (k _ b)
theorem iQ.up{o:Option ao}{p p' :ao→Prop}(h:∀v,p v→p' v):iQ o p→iQ o p'
 |.mk v e a=> .mk v e (h _ a)
mutual
theorem VR.up(h:Sub fz bz):∀{y:V}{v:ao},VR W fz x y v→VR W bz x y v
 |.none,_,r=>r
 |.bool _,_,r=>r
 |.int _,_,r=>r
 |.str _,_,r=>r
 |.tup _,_,r=>cf.up h (λ_=>aS.up h) r
 |.lst _,_,r=>cf.up h (λ_=>aS.up h) r
 |.obj _ _,_,.mk a o d es n c1 c2 e z c3 k=> .mk a o d es n (c1.up h) c2 e z (c3.up h) ⟨k.1,gd.up h k.2⟩
 |.ak,_,r=>r
 |.junk,_,r=>r
 |.bi _,_,r=>r
 |.eV _,_,r=>r
 |.tab _,_,.mk a es n c z k=> .mk a es n (c.up h) z (gc.up h k)
theorem aS.up(h:Sub fz bz):∀{y:List V}{v:List ao},aS W fz x y v→aS W bz x y v
 | [],_,r=>r
 |_::_,_,r=>dH.up (λ_=>VR.up h) (λ_=>aS.up h) r
theorem gd.up(h:Sub fz bz):∀{y:List (Str×V)}{g:Str→Option ao},gd W fz x y g→gd W bz x y g
 | [],_,r=>r
 |(_,_)::_,_,r=>⟨iQ.up (λ_=>VR.up h) r.1,gd.up h r.2⟩
theorem gc.up(h:Sub fz bz):∀{y:List (Str×V)}{v:List DictEntry},gc W fz x y v→gc W bz x y v
 | [],_,r=>r
 |(_,_)::_,_,r=>dH.up (λ_ k=>⟨k.1,VR.up h k.2⟩) (λ_=>gc.up h) r
end
theorem aS.length:∀{l:List V}{vs:List ao},aS W fz x l vs→vs.length=l.length
 | [],_,rfl=>rfl
 |_::_,_,.mk _ _ _ k=>congrArg Z5 (aS.length k)
theorem aS.size{l:List V}{vs:Array ao}(h:aS W fz x l vs.toList):vs.size=l.length:=Array.length_toList.symm.trans h.length
theorem aS.append:∀{l l' :List V}{vs fu:List ao},aS W fz x l vs→aS W fz x l' fu→aS W fz x (l++l') (vs++fu)
 | [],_,_,_,rfl,r' =>r'
 |_::_,_,_,_,.mk v l h k,r' => .mk v _ h (aS.append k r')
theorem aS.get:∀{l:List V}{vs:List ao},aS W fz x l vs→∀{i:Nat}{y:V},l[i]?=ag y→iQ vs[i]? (VR W fz x y)
 |_::_,_,.mk v _ h _,0,_,rfl=> .mk v rfl h
 |_::_,_,.mk _ _ _ k,_+1,_,e=>(aS.get k e:_)
theorem aS.snoc:∀{l:List V}{y:V}{vs:List ao},aS W fz x (l++[y]) vs→∃ws v,vs=ws++[v]∧aS W fz x l ws∧VR W fz x y v
 | [],_,_,.mk v _ h rfl=>⟨[],v,rfl,rfl,h⟩
 |_::_,_,_,.mk v _ h k=>let⟨ws,u,e,h1,h2⟩:=aS.snoc k;⟨v::ws,u,congrArg _ e,.mk _ _ h h1,h2⟩
theorem VR.handed{y:V}{v:ao}(h:VR W fz x y v):handedIn v=ae:=by
 cases y with
 |int=>obtain⟨⟩:=(h:bL _ _);rfl
 |str=>obtain⟨⟩:=(h:cj _ _);rfl
 |tup=>obtain⟨⟩:=(h:cf _ _ _ _ _);rfl
 |lst=>obtain⟨⟩:=(h:cf _ _ _ _ _);rfl
 |obj=>obtain⟨⟩:=(h:oy _ _ _ _ _);rfl
 |junk=>obtain⟨⟩:=(h:r9 _);rfl
 |tab=>obtain⟨⟩:=(h:qi _ _ _ _);rfl
 |eV u=>exact(h:_∧_).1▸(h:_∧_).2
 |bi b=>rw[(h:v=_)];cases b<;>rfl
 |none=>rw[(h:v=_)];rfl
 |bool=>rw[(h:v=_)];rfl
 |ak=>rw[(h:v=_)];rfl
theorem gd.get{g:Str→Option ao}{a:Str}:∀{fs:List (Str×V)}{y:V},gd W fz x fs g→aV a fs=ag y→iQ (g a) (VR W fz x y):=λ{fs}=>by
 induction fs with
 |nil=>intro y _ h;cases h
 |cons p l ih=>
  intro y r h
  unfold aV at h
  cases q:seq a p.1 with
  |true=>rw[q]at h;cases h;rw[eN.mp q];exact r.1
  |false=>rw[q]at h;exact ih r.2 h
end
noncomputable def setC(d:aQ)(o:km)(cs:Cells):Cells:=cs.map λp=>if p.1=d then(d,o)else p
theorem MQ{d:aQ}{o:km}{cs:Cells}{p:aQ×km}(h:p∈cs)(n:p.1≠d):p∈setC d o cs:=List.mem_map.mpr ⟨p,h,if_neg n⟩
theorem MP{d:aQ}{o o' :km}{cs:Cells}(h:(d,o)∈cs):(d,o')∈setC d o' cs:=List.mem_map.mpr ⟨(d,o),h,if_pos rfl⟩
theorem MR{d:aQ}{o:km}{cs:Cells}(h:d∉cs.map (·.1)):setC d o cs=cs:=by
 exact(Lv λp hp=>if_neg λe=>h (List.mem_map.mpr ⟨p,hp,e⟩)).trans (List.map_id _)
theorem abS(d:aQ)(o:km)(cs:Cells):(setC d o cs).map (·.1)=cs.map (·.1):=by
 unfold setC
 rw[Ly]
 refine Lv λp _=>?_
 by_cases e:p.1=d
 ·rw[Function.comp,if_pos e,e]
 ·rw[Function.comp,if_neg e]
noncomputable def aI(a b:Int):Bool:=decide (a=b)
theorem oQ{a b:Int}:aI a b=ae↔a=b:=decide_eq_true_iff
def eO(W:Wd)(fz:Cells)(x:aQ):List (Int×V)→List (Int×ao)→Prop
 | [],kvs=>kvs=[]
 |(k,y)::l,kvs=>dH (λp=>p.1=k∧VR W fz x y p.2) (eO W fz x l) kvs
section
variable(W:Wd)(fz:Cells)(x:aQ)(cs:Cells)
inductive kH(l:List V)(p:aQ):Prop
 |mk (vs:Array ao) (n:Nat) (h:(p,listOf vs n)∈cs) (k:aS W fz x l vs.toList)
inductive ow(l:List (Int×V)):ao→Prop
 |mk (a:aQ) (o:km) (kv:List (Int×ao)) (h:(a,o)∈cs) (d:o.IsDictOf (intKind W.prog W.w) kv) (k:eO W fz x l kv) (z:(a==sysModules)=af):ow l (.ref a)
def FR(p:aQ):FV→ao→Prop
 |.v y,v=>VR W fz x y v
 |.own l,v=>v=.ref p∧kH W fz x cs l p
 |.keys l,v=>ow W fz x cs l v
noncomputable def cell:FV→Bool
 |.v _=>af
 |.own _=>ae
 |.keys _=>ae
structure AR(p:Str→aQ)(g:Str→Option ao)(l:FS):Prop where
 at_:∀{a:Str}{y:FV},aV a l=ag y→iQ (g a) (FR W fz x cs (p a) y)
 inj:∀{a b:Str}{y z:FV},aV a l=ag y→aV b l=ag z→cell y=ae→cell z=ae→g a=g b→a=b
end
section
variable{W:Wd}{fz bz:Cells}{x:aQ}{cs iT:Cells}{p p' :Str→aQ}{g g' :Str→Option ao}{l:FS}{id:Str}
theorem eO.up(h:Sub fz bz):∀{y:List (Int×V)}{kv:List (Int×ao)},eO W fz x y kv→eO W bz x y kv
 | [],_,r=>r
 |(_,_)::_,_,r=>dH.up (λ_ k=>⟨k.1,k.2.up h⟩) (λ_=>eO.up h) r
theorem FR.up(h:Sub fz bz)(k:Sub cs iT){a:aQ}{y:FV}{v:ao}(r:FR W fz x cs a y v):FR W bz x iT a y v:=by
 cases y with
 |v y=>exact VR.up h r
 |own l=>obtain⟨e,vs,n,m,q⟩:=(r:_∧kH _ _ _ _ _ _);exact⟨e,vs,n,k _ m,q.up h⟩
 |keys l=>obtain⟨a,o,kv,m,d,q,z⟩:=(r:ow _ _ _ _ _ _);exact .mk a o kv (k _ m) d (q.up h) z
theorem FR.cell{a:aQ}{y:FV}{v:ao}(r:FR W fz x cs a y v)(h:Mine.cell y=ae):∃b o,v=.ref b∧(b,o)∈cs:=by
 cases y with
 |v y=>cases h
 |own l=>obtain⟨e,vs,n,m,q⟩:=(r:_∧kH _ _ _ _ _ _);exact⟨_,_,e,m⟩
 |keys l=>obtain⟨a,o,kv,m,d,q,z⟩:=(r:ow _ _ _ _ _ _);exact⟨_,_,rfl,m⟩
theorem AR.up(h:Sub fz bz)(k:Sub cs iT)(R:AR W fz x cs p g l):AR W bz x iT p g l:=⟨λe=>(R.at_ e).up λ_=>FR.up h k,R.inj⟩
theorem AR.nil(h:∀a y,aV a l=ag y→Mine.cell y=af∧iQ (g a) (FR W fz x [] (p a) y)):AR W fz x [] p g l:=
 ⟨λe=>(h _ _ e).2,λe _ c _ _=>by rw[(h _ _ e).1]at c;cases c⟩
theorem AR.put{y:V}{v:ao}(hv:VR W fz x y v)(e:g' id=ag v)(o:∀b,b≠id→g' b=g b)(R:AR W fz x cs p g l):AR W fz x cs p g' (di id (.v y) l)where
 at_ {a z} h:=by
  rcases lr _ h with⟨rfl,rfl⟩|⟨n,h⟩
  ·exact⟨v,e,hv⟩
  ·rw[o _ n];exact R.at_ h
 inj {a b y z} h1 h2 c1 c2 q:=by
  rcases lr _ h1 with⟨rfl,rfl⟩|⟨n1,i1⟩
  ·cases c1
  ·rcases lr _ h2 with⟨rfl,rfl⟩|⟨n2,i2⟩
   ·cases c2
   ·rw[o _ n1,o _ n2]at q;exact R.inj i1 i2 c1 c2 q
theorem AR.E9{d:aQ}{ob:km}{y:FV}(hd:∀q∈cs,q.1≠d)(hv:FR W fz x ((d,ob)::cs) (p' id) y (.ref d))(e:g' id=ag (.ref d))(o:∀b,b≠id→g' b=g b)(po:∀b,b≠id→p' b=p b)(R:AR W fz x cs p g l):
 AR W fz x ((d,ob)::cs) p' g' (di id y l):=by
 have no:∀{b z},b≠id→aV b l=ag z→Mine.cell z=ae→g' b≠ag (.ref d):=λn h c q=>by
  rw[o _ n]at q
  obtain⟨v,e,k⟩:=R.at_ h
  obtain⟨b,ob,rfl,m⟩:=k.cell c
  rw[q]at e;cases e
  exact hd _ m rfl
 refine⟨λ{a z} h=>?_,λ{a b y z} h1 h2 c1 c2 q=>?_⟩
 ·rcases lr _ h with⟨rfl,rfl⟩|⟨n,h⟩
  ·exact⟨_,e,hv⟩
  ·rw[o _ n,po _ n];exact(R.at_ h).up λ_=>FR.up (Sub.refl _) (Sub.cons _ _)
 ·rcases lr _ h1 with⟨rfl,rfl⟩|⟨n1,i1⟩
  ·rcases lr _ h2 with⟨rfl,rfl⟩|⟨n2,i2⟩
   ·rfl
   ·exact absurd (q.symm.trans e) (no n2 i2 c2)
  ·rcases lr _ h2 with⟨rfl,rfl⟩|⟨n2,i2⟩
   ·exact absurd (q.trans e) (no n1 i1 c1)
   ·rw[o _ n1,o _ n2]at q;exact R.inj i1 i2 c1 c2 q
theorem AR.swap{d:aQ}{y y' :FV}(up:Sub fz bz)(less:∀p∈cs,p.1≠d→p∈iT)(h:aV id l=ag y)(c:Mine.cell y=ae)(e:g id=ag (.ref d))(hv:FR W bz x iT (p id) y' (.ref d))(R:AR W fz x cs p g l):
 AR W bz x iT p g (di id y' l):=by
 refine⟨λ{a z} k=>?_,λ{a b aeN z} h1 h2 c1 c2 q=>?_⟩
 ·rcases lr _ k with⟨rfl,rfl⟩|⟨n,k⟩
  ·exact⟨_,e,hv⟩
  ·obtain⟨v,g1,r⟩:=R.at_ k
   have ne:Mine.cell z=ae→v≠ .ref d:=λcz q=>n (R.inj k h cz c (by rw[g1,e,q]))
   refine⟨v,g1,?_⟩
   cases z with
   |v y=>exact VR.up up r
   |own l=>obtain⟨e,vs,m,i,q⟩:=(r:_∧kH _ _ _ _ _ _);exact⟨e,vs,m,less _ i λz=>ne rfl (e.trans (congrArg jV z)),q.up up⟩
   |keys l=>obtain⟨a,o,kv,m,d,q,z⟩:=(r:ow _ _ _ _ _ _);exact .mk a o kv (less _ m λz=>ne rfl (congrArg jV z)) d (q.up up) z
 ·rcases lr _ h1 with⟨rfl,rfl⟩|⟨n1,i1⟩
  ·rcases lr _ h2 with⟨rfl,rfl⟩|⟨n2,i2⟩
   ·rfl
   ·exact(R.inj i2 h c2 c q.symm).symm
  ·rcases lr _ h2 with⟨rfl,rfl⟩|⟨n2,i2⟩
   ·exact R.inj i1 h c1 c q
   ·exact R.inj i1 i2 c1 c2 q
theorem AR.del(o:∀b,b≠id→g' b=g b)(R:AR W fz x cs p g l):AR W fz x cs p g' (iU id l)where
 at_ h:=by obtain⟨n,h⟩:=DW h;rw[o _ n];exact R.at_ h
 inj h1 h2 c1 c2 q:=by
  obtain⟨n1,i1⟩:=DW h1
  obtain⟨n2,i2⟩:=DW h2
  rw[o _ n1,o _ n2]at q;exact R.inj i1 i2 c1 c2 q
end
structure Act where
 A₀:eK
 base:cG
 h₀:cG
 outer:List Env
 L:aQ
 qual:Str
 scope:Scope
 f:aQ
 cd:ao
 cl:List (Str×aQ):=[]
noncomputable abbrev Act.env(c:Act):Env:=envX c.qual c.scope c.L c.f c.cd c.cl
structure il(W:Wd)(c:Act)(A:eK):Prop where
 below:Below c.A₀ c.base c.outer c.h₀
 bX:W.K.In c.h₀
 top:TopRead W.p W.loose W.mg W.mb c.h₀
 frames:A.frames=ag (c.env::c.outer)
 kind:c.scope.kind=.function
structure iP where
 f:Str→aQ
 o:km
structure Pin where
 f:iP
 l:Str→aQ
abbrev Self:=Option (aQ×FS)
structure aq where
 loc:FS
 self:Self
 free:Bool:=af
structure Hp(c:Act)(h:cG)(cs:Cells):Prop where
 N:News c.h₀ c.L h cs
 D:(cs.map (·.1)).Nodup
inductive kJ(W:Wd)(fz:Cells)(x:aQ)(f:iP)(C:aQ)(fs:FS):Cells→Prop
 |mk (d:aQ) (es:List DictEntry) (n:Nat) (c3:Cells) (oc:f.o.cls=.ref C) (od:f.o.dict=ag d) (on:notCls f.o=ae) (le:es.length≤fs.length) (z:Only fs es) (R:AR W fz x c3 f.f (gl es) fs):
  kJ W fz x f C fs ((x,f.o)::(d,dictOf es n)::c3)
def SR(W:Wd)(fz:Cells)(x:aQ)(f:iP):Self→Cells→Prop
 |none,_=>True
 |some p,cs=>kJ W fz x f p.1 p.2 cs
inductive CR(W:Wd)(f:iP)(x:aQ)(c:Act)(m:Str→Option ao)(self:Self)(rest fz:Cells)(h:cG):Prop
 |mk (c2:Cells) (F:Fr c.h₀ c.L h m) (H:Hp c h (c2++(rest++fz))) (S:SR W fz x f self c2)
structure Cf where
 π:Pin
 rest:Cells
 fz:Cells
 s:ay
inductive Rel(W:Wd)(x:aQ)(c:Act)(st:aq)(a:Cf):Prop
 |mk (m:Str→Option ao) (c1:Cells) (f:iP) (e:st.free=ae∨f=a.π.f) (C:CR W f x c m st.self (c1++a.rest) a.fz a.s.heap) (L:AR W a.fz x c1 a.π.l m st.loc)
inductive cU(s:ay):ay→Prop
 |mk (h:cG) (t:Nat):cU s {s with heap:=h,toks:=t}
theorem cU.refl(s:ay):cU s s:=.mk s.heap s.toks
theorem cU.trans{a b c:ay}:cU a b→cU b c→cU a c
 |.mk _ _,.mk h t=> .mk h t
structure Le(k:Bool)(a b:Cf):Prop where
 l:k=ae→b.π.l=a.π.l
 f:b.π.f=a.π.f
 rest:b.rest=a.rest
 fz:Sub a.fz b.fz
 u:cU a.s b.s
theorem Le.refl{k:Bool}(a:Cf):Le k a a:=⟨λ_=>rfl,rfl,rfl,Sub.refl _,cU.refl _⟩
theorem Le.trans{k:Bool}{a b c:Cf}(x:Le k a b)(y:Le k b c):Le k a c:=⟨λh=>(y.l h).trans (x.l h),y.f.trans x.f,y.rest.trans x.rest,x.fz.trans y.fz,x.u.trans y.u⟩
theorem Le.weak{k:Bool}{a b:Cf}(x:Le ae a b):Le k a b:=⟨λ_=>x.l rfl,x.f,x.rest,x.fz,x.u⟩
theorem Le.π{a b:Cf}(x:Le ae a b):b.π=a.π:=by
 cases h:a.π;cases h' :b.π
 have h1:=x.l rfl
 have h2:=x.f
 rw[h,h']at h1 h2
 cases h1;cases h2;rfl
noncomputable def BV(K:jX)(C:aQ)(a:Str):Bool:=(findIn K (.ref C) "__getattribute__"==ag (ag (.builtin "BaseException.__getattribute__")))&&(findIn K (.ref C) "__getattr__"==ag bg)&&
 hasDictIn K C&&(subIn K (.ref C) (.type "BaseException")==ag ae)&&(match findIn K (.ref C) a with|some at_=>noGet K at_|none=>af)
section
variable{prog:Program}{w:World}{A:eK}{E:ao→ay→Prop}{s:ay}{K:jX}{x C:aQ}{ox:km}{es:List DictEntry}{n:Nat}{name:Str}{v:ao}{expr:Bool}
theorem aeY{attr:Option ao}(hh:hasDictIn K C=ae)(ha:findIn K (.ref C) name=ag attr)(hn:noGet K attr=ae)(hl:getL name es=ag (ag v)):findObj K C (ag (dictOf es n)) name=ag (.value v):=
 findObj_own hh ha hn hl
theorem abX(self:ao)(t:Tok):PySem.slotArgs "__getattribute__" 1 ⟨[self,rp name t],[]⟩=pure (self,[rp name t]):=by kernel_rfl
theorem PS(t:Tok):Builtin.ObjectAttr.attrName (rp name t)=pure name:=by kernel_rfl
theorem P4:builtinKind "BaseException.__getattribute__"=ag .slot:=by decide+kernel
theorem P5:splitId "BaseException.__getattribute__"=ag ("BaseException","__getattribute__"):=by decide+kernel
theorem SE{Q:ao→ay→Prop}(X:K.In s.heap)(I:InstAt s.heap x ox C (ag (dictOf es n)))(hg:BV K C name=ae)(hl:getL name es=ag (ag v))(hv:handedIn v=ae)
 (h:Q v {s with toks:=s.toks+1}):aA (model prog w) A (getAttr (.ref x) name expr) Q E s:=by
 unfold BV at hg
 simp only[Bool.and_eq_true]at hg
 obtain⟨⟨⟨⟨g1,g2⟩,g3⟩,g4⟩,g5⟩:=hg
 have g1:=beq_iff_eq.mp g1
 have g2:=beq_iff_eq.mp g2
 have g4:=beq_iff_eq.mp g4
 split at g5
 ·rename_i at_ ha
  have hf:=aeY (n:=n) g3 ha g5 hl
  obtain⟨VJ,g,d,t,os⟩:=s
  have L0:=I.type (M:=model prog w)
  have L1:=looks_findIn (M:=model prog w) X g1
  have L2:=looks_findIn (M:=model prog w) X g2
  have L3:=looks_find (M:=model prog w) X I hf
  have fS:¬((onTheHeap (jV C)&&EE "BaseException.__getattribute__"==EE "object.__getattribute__")=ae):=by
   rw[show(EE "BaseException.__getattribute__"==EE "object.__getattribute__")=af by decide+kernel,zC];decide
  unfold getAttr getAttrBy
  refine bq (wpAny_mkText (wpAny_holding (bq (L0.at (bq (L1.at ?_))))))
  dsimp only
  rw[if_neg fS]
  unfold getAttrByItsOwn hookBefore
  refine bq ?_
  rw[if_pos (show onTheHeap (jV C)=ae from rfl)]
  refine L2.at (bq (wpAny_attempt (wpAny_holding ?_)))
  unfold callGetattribute
  rw[if_neg (show ¬((expr&&onTheHeap (EE "BaseException.__getattribute__"))=ae)by cases expr<;>decide)]
  unfold boundAndCalled
  refine bq ?_
  rw[PySem.F.attrBase_Exception.ga.bind]
  refine dv (wpAny_call (codeAny_call_builtin PySem.F.attrBase_Exception.ga.plain PySem.F.entry_bexc_ga ?_))
  refine@check_slot (model prog w) _ _ ⟨VJ,g,d,t+1,os⟩ "BaseException.__getattribute__" "BaseException" "__getattribute__" (.ref x) [.str name t] [] _ P4 P5 (L0.andThen (looks_subIn X g4)) (PySem.F.args_bexc_ga _ _) ?_
  unfold Builtin.«object.__getattribute__»
  rw[show[jV x]++[rp name t]=[jV x,rp name t]from rfl,abX]
  refine bq (dv ?_)
  dsimp only
  rw[PS]
  refine bq (dv (bq (L0.at (bq (L3.at ?_)))))
  refine dv ?_
  show aA _ _ (handedOut v) _ _ _
  rw[handedOut_of hv]
  exact dv h
 ·cases g5
end
noncomputable def aeP(v:ao):Bool:=match v with|.ref _=>ae|_=>af
theorem aeZ{v:ao}(h:aeP v=ae):∃a,v=.ref a:=by
 cases v with
 |ref a=>exact⟨a,rfl⟩
 |_=>cases h
noncomputable def qA(l:List ao):Bool:=(l.take (l.length -3)).all aeP&&(l.drop (l.length -3)==[.type "Exception",.type "BaseException",.type "object"])
theorem ae1{l:List ao}(e:l.all aeP=ae):∃pre:List aQ,l=pre.map jV:=by
 induction l with
 |nil=>exact⟨[],rfl⟩
 |cons v r ih=>
  obtain⟨h,t⟩:=Bool.and_eq_true_iff.mp e
  obtain⟨a,rfl⟩:=aeZ h
  obtain⟨pre,rfl⟩:=ih t
  exact⟨a::pre,rfl⟩
theorem BW{l:List ao}(e:qA l=ae):∃pre:List aQ,l=pre.map jV++[.type "Exception",.type "BaseException",.type "object"]:=by
 obtain⟨h,t⟩:=Bool.and_eq_true_iff.mp e
 obtain⟨pre,hp⟩:=ae1 h
 exact⟨pre,by rw[←hp,←beq_iff_eq.mp t,List.take_append_drop]⟩
theorem SK(self:ao)(pre:List aQ):refuseLoop self "__setattr__" (pre.map jV++[.type "Exception",.type "BaseException",.type "object"])=pure ():=by
 induction pre with
 |nil=>exact PySem.F.store_Exception.passes self
 |cons a r ih=>rw[rA,zx,refuseLoop_ref];exact ih
noncomputable def qB(K:jX)(C:aQ)(a:Str):Bool:=(findIn K (.ref C) "__setattr__"==ag (ag (.builtin "object.__setattr__")))&&(match clsIn K C with|some cd=>qA cd.mro&&cd.hasDict|none=>af)&&(takerIn K C a==ag bg)
section
variable{prog:Program}{w:World}{A:eK}{E:ao→ay→Prop}{s:ay}{K:jX}{x C L dx:aQ}{h₀:cG}{m:Str→Option ao}{ox:km}{od:Option km}{es:List DictEntry}{n:Nat}{name:Str}{v:ao}{pre post:Cells}
theorem Nk{tk:Tok}{Q:Fin→ay→Prop}(F:Fr h₀ L s.heap m)(N:News h₀ L s.heap (pre++(dx,dictOf es n)::post))(h1:∀p∈pre,p.1≠dx)(h2:∀p∈post,p.1≠dx)(hl:(getL name es).isSome=ae)
 (hz:(putL name (ml w.params name) (.str name s.toks) v es).length≤1000)
 (h:∀h',Fr h₀ L h' m→News h₀ L h' (pre++(dx,dictOf (putL name (ml w.params name) (.str name s.toks) v es) (putN name es n))::post)→Q (.done (.ret .none)) {s with heap:=h',toks:=s.toks+1}):
 aA (model prog w) A (Ls dx (.str name tk) name v) Q E s:=by
 obtain⟨U1,U2⟩:=news_upd (f:=Obj.putName name (ml w.params name) (.str name s.toks) v) F N h1 h2 (putName_dict _ _ _ _ _ _) rfl
 have D:=(N (dx,dictOf es n) (by simp)).1
 have D' :=(U2 (dx,dictOf (putL name (ml w.params name) (.str name s.toks) v es) (putN name es n)) (by simp)).1
 unfold Ls Builtin.ObjectAttr.newKeyGuard
 refine bq (dv (bq ?_))
 unfold nsSet
 refine bq (bq (wpAny_askSetting (dv (bq (wpAny_mkText (bq (wpAny_loadPart D ?_)))))))
 dsimp only
 have c:(!es.toArray.any (·.key.isStr name)&&es.toArray.any (·.refKey))=af:=by
  rw[←Lz,←Lz]
  unfold getL at hl
  split at hl
  ·rename_i en he
   rw[List.any_eq_true.mpr ⟨en,List.mem_of_find?_eq_some he,List.find?_some he⟩];rfl
  ·split at hl
   ·cases hl
   ·rename_i z;rw[Bool.not_eq_true]at z;rw[z,zC]
 rw[aRefKeyMayBeTheName_at,c]
 refine wpAny_updatePart D ?_
 refine bq (wpAny_lookBehind D' (pastItsLine_dict (by rw[Lm,sizeLine_eq];omega)) ?_)
 exact dv (h _ U1 U2)
theorem H7{Q:Unit→ay→Prop}(X:K.In s.heap)(I:InstAt s.heap x ox C od)(hs:qB K C name=ae)
 (h:∀A' b cd,clsIn K C=ag cd→cd.hasDict=ae→aA (model prog w) A' (Builtin.ObjectAttr.storeInOwnDict (.ref x) (.ref C) (.str name s.toks) name v b)
  (λfin s' =>fin=.done (.ret .none)∧Q () s') (λe s' =>E e s') {s with toks:=s.toks+1}):
 aA (model prog w) A (setAttr (.ref x) name v) Q E s:=by
 unfold qB at hs
 simp only[Bool.and_eq_true]at hs
 obtain⟨⟨g1,g2⟩,g3⟩:=hs
 have g1:=beq_iff_eq.mp g1
 have g3:=beq_iff_eq.mp g3
 split at g2
 ·rename_i cd hc
  obtain⟨ho,hd⟩:=Bool.and_eq_true_iff.mp g2
  obtain⟨mp,hm⟩:=BW ho
  refine set_plain X I g1 ?_
  obtain⟨hh,gg,dd,tt,os⟩:=s
  have SF:=PySem.F.store_object
  have ne:cd.mro.isEmpty=af:=by rw[hm];cases mp<;>rfl
  have has:cd.mro.contains (.type "object")=ae:=by rw[hm];simp
  have sub:Looks (model prog w) hh (isInstance (.ref x) (.type "object")) ae:=I.type.andThen (looks_mroIn X (by unfold mroIn;rw[hc,Option.bind_some,if_neg (by rw[ne];decide),has]))
  refine codeAny_call_builtin SF.slot.plain SF.entry (@check_slot (model prog w) _ _ ⟨hh,gg,dd,tt+1,os⟩ "object.__setattr__" "object" "__setattr__" (.ref x) [.str name tt,v] [] _ SF.kind SF.split sub (SF.args (.ref x) (.str name tt) v) ?_)
  obtain⟨attr,ha,hr⟩:=Option.bind_eq_some_iff.mp g3
  have VS:Looks (model prog w) hh (mroOf (.ref C)) cd.mro:=(looks_clsIn X hc).andThen .now
  have L3:Looks (model prog w) hh (Builtin.ObjectAttr.storeTaker? attr) bg:=by
   cases attr with
   |none=>exact .now
   |some a=>
    obtain⟨b,hb,e⟩:=Option.map_eq_some_iff.mp hr
    refine(looks_takesIn X hb).andThen ?_
    cases b with
    |true=>cases e
    |false=>exact .now
  rw[osa_eq,refuse_eq]
  refine bq (bq (I.type.at (bq (VS.at ?_))))
  rw[hm,SK]
  refine dv (bq (I.type.at (bq ((looks_findIn X ha).at (bq (L3.at ?_))))))
  refine iK (h _ _ cd hc hd) (λfin s' z=>?_) λ_ _ z=>z
  obtain⟨rfl,z⟩:=z
  exact z
 ·cases g2
end
section
variable{prog:Program}{w:World}{A:eK}{E:ao→ay→Prop}{s:ay}{K:jX}{x C L dx:aQ}{h₀:cG}{m:Str→Option ao}{ox:km}{od:Option km}{es:List DictEntry}{n:Nat}{name:Str}{v:ao}{pre post:Cells}
theorem SN{Q:Unit→ay→Prop}(F:Fr h₀ L s.heap m)(AY:K.In h₀)(N:News h₀ L s.heap (pre++(dx,dictOf es n)::post))(h1:∀p∈pre,p.1≠dx)(h2:∀p∈post,p.1≠dx)
 (I:InstAt s.heap x ox C (ag (dictOf es n))) (hd:ox.dict=ag dx) (hs:qB K C name=ae) (hl:(getL name es).isSome=ae) (hz:es.length≤999)
 (h:∀h' t t',Fr h₀ L h' m→News h₀ L h' (pre++(dx,dictOf (putL name (ml w.params name) (.str name t') v es) (putN name es n))::post)→Q () {s with heap:=h',toks:=t}):
 aA (model prog w) A (setAttr (.ref x) name v) Q E s:=by
 have X:=AY.keeps F.keep
 have hlen:∀(es:List DictEntry)(Jt:Int)(k v:ao),(putL name Jt k v es).length≤es.length+1:=by
  intro es Jt k v
  induction es with
  |nil=>simp[putL]
  |cons e r ih=>unfold putL;split<;>simp<;>omega
 refine H7 X I hs λA' b cd hc iC=>?_
 obtain⟨hh,gg,dd,tt,os⟩:=s
 obtain⟨hx,yq,hn,-⟩:=I
 obtain⟨oc,odi,oda,osl⟩:=ox
 dsimp only at yq hd
 subst yq hd
 refine bq (dv (bq (bq (wpAny_loadPart hx (bq ((looks_clsIn X hc).at ?_))))))
 rw[iC]
 refine dv (a:=ag dx) ?_
 exact Nk (s:=⟨hh,gg,dd,tt+1,os⟩) F N h1 h2 hl (aL (hlen es (ml w.params name) (.str name (tt+1)) v) (by omega)) λh' F' N' =>⟨rfl,h h' _ _ F' N'⟩
theorem SM{vs:Array ao}{sl:Array (Option ao)}{Q:Unit→ay→Prop}(F:Fr h₀ L s.heap m)(AY:K.In h₀)(N:News h₀ L s.heap (pre++(x,⟨.ref C,bg,.fields vs,sl⟩)::post))(h1:∀p∈pre,p.1≠x)(h2:∀p∈post,p.1≠x)
 (hs:qB K C name=ae)
 (h:∀D h' t t',Fr h₀ L h' m→News h₀ L h' ((D,dictOf (putL name (ml w.params name) (.str name t') v []) (putN name [] 0))::(pre++(x,⟨.ref C,ag D,.fields vs,sl⟩)::post))→(∀p∈pre++(x,(⟨.ref C,bg,.fields vs,sl⟩:km))::post,p.1<D)→Q () {s with heap:=h',toks:=t}):
 aA (model prog w) A (setAttr (.ref x) name v) Q E s:=by
 have X:=AY.keeps F.keep
 have hx:=N (x,⟨.ref C,bg,.fields vs,sl⟩) (by simp)
 have I:InstAt s.heap x ⟨.ref C,bg,.fields vs,sl⟩ C bg:=⟨hx.1,rfl,rfl,trivial⟩
 refine H7 X I hs λA' b cd hc iC=>?_
 obtain⟨hh,gg,dd,tt,os⟩:=s
 have dJ:∀p∈pre++(x,(⟨.ref C,bg,.fields vs,sl⟩:km))::post,p.1<hh.objs.size:=λp hp=>ru (N p hp).1
 refine bq (dv (bq (bq (wpAny_loadPart hx.1 (bq ((looks_clsIn X hc).at ?_))))))
 rw[iC]
 have F1:=F.push emptyDict
 have N1:=N.push F emptyDict
 have O_:News h₀ L (hh.push emptyDict) (((hh.objs.size,emptyDict)::pre)++(x,⟨.ref C,bg,.fields vs,sl⟩)::post):=N1
 obtain⟨F2,N2⟩:=news_upd (f:=λo=>{o with dict:=ag hh.objs.size}) F1 O_ (λp hp=>by
  rcases List.mem_cons.mp hp with rfl|hp
  ·exact Lu (dJ (x,⟨.ref C,bg,.fields vs,sl⟩) (by simp))
  ·exact h1 p hp) h2 rfl (o' :=⟨.ref C,ag hh.objs.size,.fields vs,sl⟩) rfl
 have Wg:(hh.push emptyDict).get? x=ag ⟨.ref C,bg,.fields vs,sl⟩:=nF _ hx.1
 have Pa:News h₀ L _ ([]++(hh.objs.size,dictOf [] 0)::(pre++(x,⟨.ref C,ag hh.objs.size,.fields vs,sl⟩)::post)):=N2
 refine bq (wpAny_alloc (bq (wpAny_update Wg (dv ?_))))
 refine Nk (s:=⟨_,gg,dd,tt+1,os⟩) F2 Pa (λp hp=>by cases hp) (λp hp=>?_) rfl (by simp[putL]) λh' F' N' =>⟨rfl,h hh.objs.size h' _ _ F' N' dJ⟩
 rcases List.mem_append.mp hp with hp|hp
 ·exact nK (dJ p (ib _ hp))
 ·rcases List.mem_cons.mp hp with rfl|hp
  ·exact nK (dJ (x,⟨.ref C,bg,.fields vs,sl⟩) (by simp))
  ·exact nK (dJ p (bM _ (.tail _ hp)))
end
noncomputable abbrev nM(C t:aQ):km:={cls:=.ref C,data:=.fields #[.ref t,.none,.none,.none,.bool af,.none]}
structure xh(bm:List ao):Prop where
 ex:bm.contains (.type "Exception")=ae
 base:bm.contains (.type "BaseException")=ae
 Y0:bm.contains (.type "AttributeError")=af
 Y2:bm.contains (.type "NameError")=af
theorem Sw{bm:List ao}(h:qA bm=ae):xh bm:=by
 obtain⟨pre,rfl⟩:=BW h
 refine⟨by simp,by simp,?_,?_⟩
 ·rw[Bool.eq_false_iff];intro q;simp at q
 ·rw[Bool.eq_false_iff];intro q;simp at q
section
variable{prog:Program}{w:World}{M:Model}{A:eK}{E:ao→ay→Prop}{R:Result→ay→Prop}{h:cG}{g:Array GenState}{d:Drawn}{t:Nat}{os:OsState}
variable{nm q:Str}{C N:aQ}{bs bm:List ao}{qL:Bool}{sn:List Str}{sub:List ao}{ab:Bool}{col:Option Bool}{dd:Option aQ}{k0 k1 k2 k3 k5:Option ao}
theorem Sz{rest:List ao}{Q:Unit→ay→Prop}(H:xh bm)(hC:h.get? C=ag (excClassObj nm q C N bs bm qL sn sub ab col dd k0 k1 k2 k3 k5 "Exception.__new__"))
 (hq:Q () ⟨h,g,d,t,os⟩):aA M A (checkBuiltinCall "Exception.__new__" ⟨.ref C::rest,[]⟩) Q E ⟨h,g,d,t,os⟩:=by
 have F:=Lk
 have hc:(jV C::bm).contains (.type "Exception")=ae:=by rw[wq,H.ex,aaj]
 have hs:=F.noStar
 simp only[checkBuiltinCall,F.newKind,F.newSplit,F.newRow]
 repeat (first|refine wpAny_loadPart_at hC ?_|(refine wpAny_isSubtype_exc hC ?_;rw[hc])|refine wpAny_staticBase_exc hC ?_|refine wpAny_madeBy_exc hC ?_|simp only[bne_self_eq_false,EA,if_false]|wp_step)
 exact hq
theorem SI{rest:List ao}(H:xh bm)(hC:h.get? C=ag (excClassObj nm q C N bs bm qL sn sub ab col dd k0 k1 k2 k3 k5 "Exception.__new__"))
 (hq:R (.ok (.ret (.ref (h.objs.size+1)))) ⟨(h.push {cls:=.type "tuple",data:=.seq rest.toArray}).push (nM C h.objs.size),g,d,t,os⟩) (hr:rest.length≤sizeLine):
 codeAny (model prog w) A (.builtin "Exception.__new__" ⟨.ref C::rest,[]⟩) R ⟨h,g,d,t,os⟩:=by
 have F:=Lk
 have e1:=F.ends
 have Vr:(jV C::bm).contains (.type "Exception")=ae:=by rw[wq,H.ex,aaj]
 have Vs:(jV C::bm).contains (.type "AttributeError")=af:=by rw[wq,H.Y0];rfl
 have Vt:(jV C::bm).contains (.type "NameError")=af:=by rw[wq,H.Y2];rfl
 refine codeAny_builtinAt F.entry ?_
 unfold Builtin.«BaseException.__new__»
 refine PySem.wpAt_bind ?_
 show PySem.wpAt _ _ _ (stack>>=_) _ _ _
 refine PySem.wpAt_bind (PySem.wpAt_stack λp below=>PySem.wpAt_of_wpAny ?_)
 wp_walk
 refine PySem.wpAt_of_wpAny ?_
 rw[F.owner]
 repeat (first|with_reducible refine wpAny_madeHere_exc F.canon hC ?_|with_reducible refine wpAny_loadPart_at hC ?_|(with_reducible refine wpAny_isSubtype_exc hC ?_;first|rw[Vr]|rw[Vs]|rw[Vt])|wp_step)
 show R _ _
 rw[zD]
 exact hq
end
noncomputable def aeR(d:Data):Option ClassData:=match d with|.cls cd=>ag cd|_=>bg
theorem aeX{d:Data}{cd:ClassData}(h:aeR d=ag cd):d=.cls cd:=by
 cases d with
 |cls c=>cases h;rfl
 |_=>cases h
theorem aeS{α:Type}{o:Option α}{f:α→Bool}(h:o.elim af f=ae):∃a,o=ag a∧f a=ae:=by
 cases o with
 |none=>cases h
 |some a=>exact⟨a,rfl,h⟩
theorem six{α:Type}:∀{l:List α},l.length=6→∃a b c d e f,l=[a,b,c,d,e,f]
 | [a,b,c,d,e,f],_=>⟨a,b,c,d,e,f,rfl⟩
noncomputable def aeV(C:aQ)(ty:ao)(mro:List ao)(sl:List (Option ao))(del:Bool):Bool:=ty==.type "type"&&(mro.head?==ag (.ref C)&&(sl.length==6&&(sl.getD 4 bg==ag (.builtin "Exception.__new__")&&(!del&&qA mro.tail))))
noncomputable def pS(K:jX)(C fI:aQ):Bool:=((K.lookup C).elim af λo=>(aeR o.data).elim af λcd=>aeV C o.cls cd.mro o.slots.toList cd.hasDel)&&((findIn K (.ref C) "__init__"==ag (ag (.ref fI)))&&(isFn K (.ref fI)&&keepIn K (.ref C)))
inductive aeQ(C:aQ)(ty:ao)(mro:List ao)(sl:List (Option ao))(del:Bool):Prop
 |mk (bm:List ao) (k0 k1 k2 k3 k5:Option ao) (h1:ty=.type "type") (h2:mro=.ref C::bm) (h3:sl=[k0,k1,k2,k3,ag (.builtin "Exception.__new__"),k5]) (h4:del=af) (h5:xh bm):aeQ C ty mro sl del
theorem ae2{C:aQ}{ty:ao}{mro:List ao}{sl:List (Option ao)}{del:Bool}(e1:aeV C ty mro sl del=ae):aeQ C ty mro sl del:=by
 obtain⟨r1,e1⟩:=Bool.and_eq_true_iff.mp e1
 obtain⟨r2,e1⟩:=Bool.and_eq_true_iff.mp e1
 obtain⟨r3,e1⟩:=Bool.and_eq_true_iff.mp e1
 obtain⟨r4,e1⟩:=Bool.and_eq_true_iff.mp e1
 obtain⟨r5,hx⟩:=Bool.and_eq_true_iff.mp e1
 obtain⟨k0,k1,k2,k3,k4,k5,hs⟩:=six (beq_iff_eq.mp r3)
 rw[hs]at r4
 have q4:k4=ag (.builtin "Exception.__new__"):=beq_iff_eq.mp r4
 rw[q4]at hs
 cases mro with
 |nil=>cases(beq_iff_eq.mp r2:bg=_)
 |cons v bm=>exact .mk bm k0 k1 k2 k3 k5 (beq_iff_eq.mp r1) (by rw[fX (beq_iff_eq.mp r2:ag v=_)]) hs (by cases del with
  |false=>rfl
  |true=>cases r5) (Sw hx)
theorem ae0{o:km}{a:ao}{d:Data}{l:List (Option ao)}(h1:o.cls=a)(h2:o.data=d)(h3:o.slots.toList=l):o=⟨a,o.dict,d,⟨l⟩⟩:=by rw[←h1,←h2,←h3]
theorem aeW{c:ClassData}{m:List ao}{d:Bool}(h1:c.mro=m)(h2:c.hasDel=d):c=⟨c.name,c.bases,m,c.ns,c.qualname,c.hasDict,c.slotNames,c.subclasses,c.abstract,c.collection,d⟩:=by rw[←h1,←h2]
theorem Fb{K:jX}{C fI:aQ}{h:cG}(X:K.In h)(e:pS K C fI=ae):
 (∃nm q N bs bm qL sn sub ab col dd k0 k1 k2 k3 k5,h.get? C=ag (excClassObj nm q C N bs bm qL sn sub ab col dd k0 k1 k2 k3 k5 "Exception.__new__")∧xh bm)∧
 findIn K (.ref C) "__init__"=ag (ag (.ref fI))∧typeIn K (.ref fI)=ag (.type "function")∧keepIn K (.ref C)=ae:=by
 obtain⟨e1,e2⟩:=Bool.and_eq_true_iff.mp e
 obtain⟨e2,e3⟩:=Bool.and_eq_true_iff.mp e2
 obtain⟨e3,e4⟩:=Bool.and_eq_true_iff.mp e3
 refine⟨?_,beq_iff_eq.mp e2,beq_iff_eq.mp e3,e4⟩
 obtain⟨o,ho,e1⟩:=aeS e1
 obtain⟨cd,hd,e1⟩:=aeS e1
 obtain⟨bm,k0,k1,k2,k3,k5,h1,h2,h3,h4,h5⟩:=ae2 e1
 exact⟨_,_,_,_,bm,_,_,_,_,_,_,k0,k1,k2,k3,k5,(X _ _ ho).trans (congrArg ag ((ae0 h1 ((aeX hd).trans (congrArg Data.cls (aeW h2 h4))) h3).trans rfl)),h5⟩
section
variable{prog:Program}{w:World}{A:eK}{E:ao→ay→Prop}{h:cG}{g:Array GenState}{d:Drawn}{t:Nat}{os:OsState}{K:jX}{C fI:aQ}
theorem SH{rest:List ao}{Q:ao→ay→Prop}(X:K.In h)(ok:pS K C fI=ae)(hr:rest.length≤sizeLine)
 (hq:aA (model prog w) (A.under (.builtin "type.__call__" ⟨.ref C::rest,[]⟩)) (call (.ref fI) (.ref (h.objs.size+1)::rest)) (λr s' =>r=.none∧Q (.ref (h.objs.size+1)) s') E
  ⟨(h.push {cls:=.type "tuple",data:=.seq rest.toArray}).push (nM C h.objs.size),g,d,t,os⟩):
 aA (model prog w) A (call (.ref C) rest) Q E ⟨h,g,d,t,os⟩:=by
 obtain⟨⟨nm,q,N,bs,bm,qL,sn,sub,ab,col,dd,k0,k1,k2,k3,k5,hC,H⟩,hi,hf,_⟩:=Fb X ok
 have F:=Lk
 have f1:=tc_lookup
 have f2:=PySem.tc_bind (.ref C)
 have hT:(⟨h,g,d,t,os⟩:ay).TypeIs (.ref C) "type":=⟨_,hC,rfl⟩
 have k:∀b o,h.get? b=ag o→((h.push {cls:=.type "tuple",data:=.seq rest.toArray}).push (nM C h.objs.size)).get? b=ag o:=λb o e=>nF _ (nF _ e)
 have X1:K.In ((h.push {cls:=.type "tuple",data:=.seq rest.toArray}).push (nM C h.objs.size)):=X.keeps k
 have I' :=k _ _ hC
 have VH:((h.push {cls:=.type "tuple",data:=.seq rest.toArray}).push (nM C h.objs.size)).get? (h.objs.size+1)=ag (nM C h.objs.size):=by heap_get
 have Jc:(jV C::bm).contains (.ref C)=ae:=by simp
 refine wpAny_call (codeAny_of_tree ?_)
 show aA _ _ (callAny (.ref C) _) _ _ _
 repeat (any_goals (first|assumption|with_reducible refine wpAny_loadPart_at hC ?_|wp_step))
 refine⟨rfl,?_⟩
 refine codeAny_call_builtin_at (Code.quiet_builtin _ (by decide+kernel)) entry_typeCall (wpAny_check_type_call_sub hC ?_)
 unfold Builtin.«type.__call__»
 repeat (first|with_reducible refine wpAny_loadPart_at hC ?_|with_reducible refine wpAny_madeBy_exc hC ?_|wp_step)
 refine codeAny_call_builtin_code (Code.quiet_builtin _ F.quiet) (Sz H hC ?_)
 refine SI H hC ?_ hr
 show aA _ _ _ _ _ _
 unfold isInstance
 repeat (first|with_reducible refine wpAny_loadPart_at VH ?_|(with_reducible refine wpAny_isSubtype_exc I' ?_;rw[Jc])|(show aA _ _ (isSubtype (.ref C) (.ref C)) _ _ _;refine wpAny_isSubtype_exc I' ?_;rw[Jc])|(show aA _ _ (typeLookup (.ref C) _) _ _ _;fail)|wp_step)
 show aA _ _ (typeLookup (.ref C) _) _ _ _
 refine(looks_findIn X1 hi).at (wpAny_holding (bq ((bind_fn X1 _ hf).at (bq (iK hq (λr s' hr=>?_) λ_ _ x=>x)))))
 obtain⟨rfl,hQ⟩:=hr
 wp_walk
 exact hQ
end
section
variable{M:Model}{A:eK}{E:ao→ay→Prop}{s:ay}{env:Env}{K:jX}{C fI:aQ}
inductive oz(K:jX)(E:ao→ay→Prop)(s:ay):ao→Prop
 |mk (C fI e:aQ) (dd:Option aQ) (sl:Array (Option ao)) (t:aQ) (ok:pS K C fI=ae) (k:K.In s.heap) (g:s.heap.get? e=ag ⟨.ref C,dd,.fields #[.ref t,.none,.none,.none,.bool af,.none],sl⟩) (h:E (.ref e) s):oz K E s (.ref e)
theorem abe{x:Sem ao}{Q:Flow→ay→Prop}(hh:A.handled=bg)
 (h:aA M A x (λv cu=>oz K E cu v) E s):
 aA M A (raiseStmt env (ag x) bg) Q E s:=by
 unfold raiseStmt
 refine bq (iK h (λv cu cV=>?_) λ_ _ x=>x)
 obtain⟨C,fI,e,dd,sl,t,ok,X,he,hE⟩:=cV
 obtain⟨⟨nm,q,N,bs,bm,qL,sn,sub,ab,col,dd',k0,k1,k2,k3,k5,hC,H⟩,-⟩:=Fb X ok
 have Vu:(jV C::bm).contains (.type "BaseException")=ae:=by rw[wq,H.base,aaj]
 obtain⟨hp,g,d,tk,os⟩:=cu
 repeat (first|with_reducible refine wpAny_loadPart_at he ?_|with_reducible refine wpAny_loadPart_at hC ?_|(with_reducible refine wpAny_isSubtype_exc hC ?_;rw[Vu])|wp_step)
 exact wpAny_raiseNew_none hh hE
end
noncomputable def Cf.to(a:Cf)(s:ay):Cf:=⟨a.π,a.rest,a.fz,s⟩
noncomputable def Cf.fr(a:Cf)(p:aQ×km)(s:ay):Cf:=⟨a.π,a.rest,p::a.fz,s⟩
noncomputable def Cf.own(a:Cf)(p:aQ×km)(s:ay):Cf:=⟨a.π,p::a.rest,a.fz,s⟩
section
variable{W:Wd}{x:aQ}{c:Act}{st:aq}{a:Cf}{s' :ay}{k:Bool}{h h' :cG}{cs iT c1 c2 r z:Cells}{p:aQ×km}
theorem Le.to(u:cU a.s s'):Le k a (a.to s'):=⟨λ_=>rfl,rfl,rfl,Sub.refl _,u⟩
theorem Le.fr(u:cU a.s s'):Le k a (a.fr p s'):=⟨λ_=>rfl,rfl,rfl,Sub.cons _ _,u⟩
theorem tL:(c2++(cs++p::z)).Perm (p::(c2++(cs++z))):=(List.perm_middle.append_left c2).trans LA
theorem jA:(c2++((c1++p::r)++z)).Perm (p::(c2++((c1++r)++z))):=((List.perm_middle.append_right z).append_left c2).trans LA
theorem Hp.perm(e:cs.Perm iT)(H:Hp c h cs):Hp c h iT:=⟨λp hp=>H.N p (e.mem_iff.mpr hp),(e.map _).nodup_iff.mp H.D⟩
theorem Hp.sub(e:iT.Sublist cs)(H:Hp c h cs):Hp c h iT:=⟨λp hp=>H.N p (e.subset hp),H.D.sublist (e.map _)⟩
theorem Hp.keeps(k:∀b o,h.get? b=ag o→h'.get? b=ag o)(H:Hp c h cs):Hp c h' cs:=⟨λp hp=>⟨k _ _ (H.N p hp).1,(H.N p hp).2⟩,H.D⟩
theorem Hp.cons{m:Str→Option ao}(F:Fr c.h₀ c.L h m)(n:h.get? p.1=bg)(H:Hp c h cs)(k:∀b o,b≠c.L→h.get? b=ag o→h'.get? b=ag o)(e:h'.get? p.1=ag p.2):Hp c h' (p::cs):=by
 refine⟨λq hq=>?_,List.nodup_cons.mpr ⟨λhm=>?_,H.D⟩⟩
 ·rcases List.mem_cons.mp hq with rfl|hq
  ·refine⟨e,λq=>?_,?_⟩
   ·obtain⟨oL,_,_,hL,_⟩:=F.ns
    rw[q,hL]at n;cases n
   ·cases q:c.h₀.get? q.1 with
    |none=>rfl
    |some o=>rw[F.keep _ _ q]at n;cases n
  ·exact⟨k _ _ (H.N q hq).2.1 (H.N q hq).1,(H.N q hq).2⟩
 ·obtain⟨q,hq,ep⟩:=List.mem_map.mp hm
  have:=(H.N q hq).1
  rw[ep,n]at this;cases this
theorem Hp.set{d:aQ}{o o' :km}(hd:(d,o)∈cs)(hs:pL d h h')(ho:h'.get? d=ag o')(H:Hp c h (c2++(cs++z))):Hp c h' (c2++(setC d o' cs++z)):=by
 have D:=H.D
 rw[ko,ko]at D
 obtain⟨_,D2,D3⟩:=List.nodup_append.mp D
 have hm:=zO (f:=(·.1)) hd
 have e:c2++(setC d o' cs++z)=setC d o' (c2++(cs++z)):=by
  unfold setC
  rw[ko,ko]
  exact congr (congrArg _ (MR λi=>D3 _ i _ (ib _ hm) rfl).symm) (congrArg _ (MR λi=>(List.nodup_append.mp D2).2.2 _ hm _ i rfl).symm)
 rw[e]
 exact⟨H.N.replace hs ho,by rw[abS];exact H.D⟩
theorem SR.up{f:iP}{fz bz:Cells}(h:Sub fz bz):∀{self:Self}{cs:Cells},SR W fz x f self cs→SR W bz x f self cs
 |none,_,r=>r
 |some _,_,.mk d es n c3 a b e l z R=> .mk d es n c3 a b e l z (R.up h (Sub.refl _))
theorem Wd.At.get{fz:Cells}{m:Str→Option ao}(hA:W.K.In c.h₀)(F:Fr c.h₀ c.L h m)(H:Hp c h (c2++(r++fz))){d:aQ}{o:km}:W.At fz d o→h.get? d=ag o
 |.inl i=>H.N.get (bM _ (bM _ i))
 |.inr e=>hA.keeps F.keep _ _ e
theorem Rel.get(hA:W.K.In c.h₀){d:aQ}{o:km}(hd:W.At a.fz d o):Rel W x c st a→a.s.heap.get? d=ag o
 |.mk _ _ _ _ (.mk _ F H _) _=>hd.get hA F H
theorem Rel.bX(hA:W.K.In c.h₀):Rel W x c st a→W.K.In a.s.heap
 |.mk _ _ _ _ (.mk _ F _ _) _=>hA.keeps F.keep
theorem Rel.keeps(k:∀b o,a.s.heap.get? b=ag o→s'.heap.get? b=ag o):Rel W x c st a→Rel W x c st (a.to s')
 |.mk m c1 f e (.mk c2 F H S) L=> .mk m c1 f e (.mk c2 (F.keptAll k) (H.keeps k) S) L
theorem Rel.made(n:a.s.heap.get? p.1=bg)(e:s'.heap.get? p.1=ag p.2)(k:∀b o,a.s.heap.get? b=ag o→s'.heap.get? b=ag o):Rel W x c st a→Rel W x c st (a.fr p s')
 |.mk m c1 f e0 (.mk c2 F H S) L=> .mk m c1 f e0 (.mk c2 (F.keptAll k) ((H.cons F n (λb o _=>k b o) e).perm tL.symm) (S.up (Sub.cons _ _))) (L.up (Sub.cons _ _) (Sub.refl _))
theorem Rel.Yn(n:a.s.heap.get? p.1=bg)(e:s'.heap.get? p.1=ag p.2)(k:∀b o,a.s.heap.get? b=ag o→s'.heap.get? b=ag o):Rel W x c st a→Rel W x c st (a.own p s')
 |.mk m c1 f e0 (.mk c2 F H S) L=> .mk m c1 f e0 (.mk c2 (F.keptAll k) ((H.cons F n (λb o _=>k b o) e).perm jA.symm) S) L
theorem tP(h:cG):h.get? h.objs.size=bg:=by
 cases q:h.get? h.objs.size with
 |none=>rfl
 |some o=>exact absurd (ru q) (wh _)
theorem wB(h:cG)(o:km):∀b ob,h.get? b=ag ob→(h.push o).get? b=ag ob:=λ_ _ e=>nF _ e
noncomputable abbrev pushS(s:ay)(o:km):ay:={s with heap:=s.heap.push o}
theorem Rel.push{o:km}(ho:o.isFreed=af)(R:Rel W x c st a):Rel W x c st (a.fr (a.s.heap.objs.size,o) (pushS a.s o)):=R.made (tP _) (kr _ ho) (wB _ _)
theorem Rel.tO{o:km}(ho:o.isFreed=af)(R:Rel W x c st a):Rel W x c st (a.own (a.s.heap.objs.size,o) (pushS a.s o)):=R.Yn (tP _) (kr _ ho) (wB _ _)
theorem Rel.Ua:Rel W x c st (a.own p s')→Rel W x c st (a.fr p s')
 |.mk m c1 f e (.mk c2 F H S) L=> .mk m c1 f e (.mk c2 F (H.perm (jA.trans tL.symm)) (S.up (Sub.cons _ _))) (L.up (Sub.cons _ _) (Sub.refl _))
theorem Rel.less{π:Pin}{fz:Cells}:Rel W x c st ⟨π,cs++r,fz,s'⟩→Rel W x c st ⟨π,r,fz,s'⟩
 |.mk m c1 f e (.mk c2 F H S) L=> .mk m c1 f e (.mk c2 F (H.sub ((((pK cs r).append_left c1).append_right fz).append_left c2)) S) L
inductive O9(W:Wd)(fz:Cells)(x:aQ)(c:Act)(h:cG)(id:Str)(y:V):Prop
 |mk (m:Str→Option ao) (v:ao) (n:h.Ns c.L m) (e:m id=ag v) (k:VR W fz x y v)
theorem Rel.look{id:Str}{y:V}(hl:aV id st.loc=ag (.v y)):Rel W x c st a→O9 W a.fz x c a.s.heap id y
 |.mk m c1 f e (.mk c2 F H S) L=>let⟨v,e,k⟩:=L.at_ hl;⟨m,v,F.ns,e,k⟩
inductive Gu(W:Wd)(fz:Cells)(x:aQ)(c:Act)(f:iP)(h:cG)(C:aQ)(fs:FS):Prop
 |mk (m:Str→Option ao) (o:km) (es:List DictEntry) (n:Nat) (c3:Cells) (F:Fr c.h₀ c.L h m) (I:InstAt h x o C (ag (dictOf es n))) (z:Only fs es) (R:AR W fz x c3 f.f (gl es) fs) (k:∀p∈c3,h.get? p.1=ag p.2)
theorem kJ.inst{f:iP}{fz:Cells}{m:Str→Option ao}{C:aQ}{fs:FS}(F:Fr c.h₀ c.L h m)(H:Hp c h (c2++r)):kJ W fz x f C fs c2→Gu W fz x c f h C fs
 |.mk d es n c3 oc od on le z R=>⟨m,f.o,es,n,c3,F,⟨H.N.get (.head _),oc,on,by rw[od];exact H.N.get (.tail _ (.head _))⟩,z,R,λp hp=>H.N.get (.tail _ (.tail _ (ib _ hp)))⟩
theorem Rel.inst{C:aQ}{fs:FS}(hs:st.self=ag (C,fs)):Rel W x c st a→∃f,(st.free=ae∨f=a.π.f)∧Gu W a.fz x c f a.s.heap C fs
 |.mk m c1 f e (.mk c2 F H S) L=>⟨f,e,kJ.inst F H (show SR W a.fz x f (ag (C,fs)) c2 from hs▸S)⟩
noncomputable def d7(id:Str)(v:V)(st:aq):aq:=⟨di id (.v v) st.loc,st.self,st.free⟩
noncomputable def wz(id:Str)(l:List V)(st:aq):aq:=⟨di id (.own l) st.loc,st.self,st.free⟩
noncomputable def rI(C:aQ)(a:Str)(y:FV)(fs:FS)(st:aq):aq:=⟨st.loc,ag (C,di a y fs),st.free⟩
end
section
variable{α β:Type}{P:Prop}{r:β}
noncomputable def tt(b:Bool)(A:Option β):Option β:=match b with|true=>A|false=>bg
noncomputable def ff(b:Bool)(A:Option β):Option β:=match b with|true=>bg|false=>A
noncomputable def ob(o:Option α)(f:α→Option β):Option β:=match o with|some x=>f x|none=>bg
noncomputable def oe(o:Option α)(f:α→β)(g:β):β:=match o with|some x=>f x|none=>g
noncomputable def br(b:Bool)(f g:β):β:=match b with|true=>f|false=>g
theorem bK{b:Bool}{A:Option β}(h:tt b A=ag r)(k:b=ae→A=ag r→P):P:=by
 cases b with
 |true=>exact k rfl h
 |false=>cases h
theorem Cc{b:Bool}{A:Option β}(h:ff b A=ag r)(k:b=af→A=ag r→P):P:=by
 cases b with
 |false=>exact k rfl h
 |true=>cases h
theorem aD{o:Option α}{f:α→Option β}(h:ob o f=ag r)(k:∀x,o=ag x→f x=ag r→P):P:=by
 cases o with
 |some x=>exact k x rfl h
 |none=>cases h
theorem dn{o:Option α}{f:α→Option β}{g:Option β}(h:oe o f g=ag r)(k:∀x,o=ag x→f x=ag r→P)(k' :o=bg→g=ag r→P):P:=by
 cases o with
 |some x=>exact k x rfl h
 |none=>exact k' rfl h
theorem gM{b:Bool}{f g:Option β}(h:br b f g=ag r)(k:b=ae→f=ag r→P)(k' :b=af→g=ag r→P):P:=by
 cases b with
 |true=>exact k rfl h
 |false=>exact k' rfl h
theorem ez{b:Bool}{A:Option β}{v:β}(h:b=ae)(q:A=ag v):tt b A=ag v:=by rw[h];exact q
theorem aeA{b:Bool}{A:Option β}{v:β}(h:b=af)(q:A=ag v):ff b A=ag v:=by rw[h];exact q
theorem fC{o:Option α}{f:α→Option β}{x:α}{v:β}(h:o=ag x)(q:f x=ag v):ob o f=ag v:=by rw[h];exact q
theorem no(h:(bg:Option β)=ag r):P:=by cases h
theorem so{a:β}(h:ag a=ag r):r=a:=by cases h;rfl
theorem nt{P:Prop}(h:af=ae):P:=by cases h
theorem aF{a b:Bool}(h:(a&&b)=ae):a=ae∧b=ae:=Bool.and_eq_true_iff.mp h
end
noncomputable def NT{β:Type}{a b:Nat}(f:a=b→β)(c:Bool):aH a b=c→Option β:=Bool.rec (motive:=λc=>aH a b=c→Option β) (λ_=>bg) (λh=>ag (f (bG h))) c
noncomputable def j4{β:Type}(a b:Nat)(f:a=b→β):Option β:=NT f (aH a b) rfl
theorem aei{β:Type}{a b:Nat}{f:a=b→β}{q:β}{c:Bool}{z:aH a b=c}(h:NT f c z=ag q):∃e:a=b,q=f e:=by
 cases c with
 |true=>exact⟨bG z,(fX h).symm⟩
 |false=>cases h
theorem ud{β:Type}{a b:Nat}{f:a=b→β}{q:β}(h:j4 a b f=ag q):∃e:a=b,q=f e:=aei h
section
variable(v:V)
noncomputable def V.i?:Option Int:=V.casesOn v .none (λ_=> .none) ag (λ_=> .none) (λ_=> .none) (λ_=> .none) (λ_ _=> .none) .none .none (λ_=> .none) (λ_=> .none) (λ_=> .none)
noncomputable def V.s?:Option (List Nat):=V.casesOn v .none (λ_=> .none) (λ_=> .none) ag (λ_=> .none) (λ_=> .none) (λ_ _=> .none) .none .none (λ_=> .none) (λ_=> .none) (λ_=> .none)
noncomputable def V.t?:Option (List V):=V.casesOn v .none (λ_=> .none) (λ_=> .none) (λ_=> .none) ag (λ_=> .none) (λ_ _=> .none) .none .none (λ_=> .none) (λ_=> .none) (λ_=> .none)
noncomputable def V.l?:Option (List V):=V.casesOn v .none (λ_=> .none) (λ_=> .none) (λ_=> .none) (λ_=> .none) ag (λ_ _=> .none) .none .none (λ_=> .none) (λ_=> .none) (λ_=> .none)
noncomputable def V.o?:Option (aQ×List (Str×V)):=V.casesOn v .none (λ_=> .none) (λ_=> .none) (λ_=> .none) (λ_=> .none) (λ_=> .none) (λC fs=>ag (C,fs)) .none .none (λ_=> .none) (λ_=> .none) (λ_=> .none)
noncomputable def V.b?:Option Bool:=V.casesOn v .none ag (λ_=> .none) (λ_=> .none) (λ_=> .none) (λ_=> .none) (λ_ _=> .none) .none .none (λ_=> .none) (λ_=> .none) (λ_=> .none)
noncomputable def V.qm:Option Bi:=V.casesOn v .none (λ_=> .none) (λ_=> .none) (λ_=> .none) (λ_=> .none) (λ_=> .none) (λ_ _=> .none) .none .none ag (λ_=> .none) (λ_=> .none)
noncomputable def V.Fv:Option ao:=V.casesOn v .none (λ_=> .none) (λ_=> .none) (λ_=> .none) (λ_=> .none) (λ_=> .none) (λ_ _=> .none) .none .none (λ_=> .none) ag (λ_=> .none)
noncomputable def V.As:Option (List (Str×V)):=V.casesOn v .none (λ_=> .none) (λ_=> .none) (λ_=> .none) (λ_=> .none) (λ_=> .none) (λ_ _=> .none) .none .none (λ_=> .none) (λ_=> .none) ag
noncomputable def V.pV:Bool:=V.casesOn v af (λ_=>af) (λ_=>af) (λ_=>af) (λ_=>af) (λ_=>af) (λ_ _=>af) ae af (λ_=>af) (λ_=>af) (λ_=>af)
noncomputable def V.n?:Option Bool:=V.casesOn v (ag ae) (λ_=>ag af) (λ_=>ag af) (λ_=>ag af) (λ_=>ag af) (λ_=>ag af) (λ_ _=>ag af) (ag af) (ag af) (λ_=> .none) (λ_=> .none) (λ_=>ag af)
end
section
variable{v:V}
theorem iE{i:Int}(h:v.i?=ag i):v=.int i:=by cases v<;>first|exact no h|exact congrArg V.int (fX h)
theorem jc{i:List Nat}(h:v.s?=ag i):v=.str i:=by cases v<;>first|exact no h|exact congrArg V.str (fX h)
theorem wX{i:List V}(h:v.t?=ag i):v=.tup i:=by cases v<;>first|exact no h|exact congrArg V.tup (fX h)
theorem DL{i:List V}(h:v.l?=ag i):v=.lst i:=by cases v<;>first|exact no h|exact congrArg V.lst (fX h)
theorem Eu{i:aQ×List (Str×V)}(h:v.o?=ag i):v=.obj i.1 i.2:=by cases v<;>first|exact no h|exact(fX h)▸rfl
theorem j9{i:Bool}(h:v.b?=ag i):v=.bool i:=by cases v<;>first|exact no h|exact congrArg V.bool (fX h)
theorem Bk{i:Bi}(h:v.qm=ag i):v=.bi i:=by cases v<;>first|exact no h|exact congrArg V.bi (fX h)
theorem Na{i:ao}(h:v.Fv=ag i):v=.eV i:=by cases v<;>first|exact no h|exact congrArg V.eV (fX h)
theorem adq{i:List (Str×V)}(h:v.As=ag i):v=.tab i:=by cases v<;>first|exact no h|exact congrArg V.tab (fX h)
theorem tU(h:v.pV=ae):v=.ak:=by cases v<;>first|rfl|exact nt h
end
noncomputable def FV.v?(y:FV):Option V:=FV.casesOn y ag (λ_=>bg) (λ_=>bg)
noncomputable def FV.o?(y:FV):Option (List V):=FV.casesOn y (λ_=>bg) ag (λ_=>bg)
noncomputable def FV.k?(y:FV):Option (List (Int×V)):=FV.casesOn y (λ_=>bg) (λ_=>bg) ag
theorem kc{y:FV}{v:V}(h:y.v?=ag v):y=.v v:=by cases y<;>first|exact no h|exact congrArg FV.v (fX h)
theorem qG{y:FV}{v:List V}(h:y.o?=ag v):y=.own v:=by cases y<;>first|exact no h|exact congrArg FV.own (fX h)
theorem Ic{y:FV}{v:List (Int×V)}(h:y.k?=ag v):y=.keys v:=by cases y<;>first|exact no h|exact congrArg FV.keys (fX h)
noncomputable def one{α:Type}:List α→Option α
 | []=>bg
 |x::r=>match r with| []=>ag x|_::_=>bg
noncomputable def two{α:Type}:List α→Option (α×α)
 | []=>bg
 |x::r=>ob (one r) λy=>ag (x,y)
theorem dN{α:Type}{l:List α}{x:α}(h:one l=ag x):l=[x]:=by
 cases l with
 |nil=>cases h
 |cons y r=>cases r with
  |nil=>cases h;rfl
  |cons=>cases h
theorem oa{α:Type}{l:List α}{x:α×α}(h:two l=ag x):l=[x.1,x.2]:=by
 cases l with
 |nil=>cases h
 |cons y r=>refine aD h λz hz e=>?_;cases e;rw[dN hz]
noncomputable def isNil{α:Type}:List α→Bool
 | []=>ae
 |_::_=>af
noncomputable def cY{α:Type}:List α→Bool
 | []=>af
 |_::_=>ae
theorem c_{α:Type}{l:List α}(h:isNil l=ae):l=[]:=by cases l<;>first|rfl|cases h
noncomputable def gQ{α:Type}(a:Nat):List (Nat×α)→Option α
 | []=>bg
 |(b,v)::r=>match aH a b with|true=>ag v|false=>gQ a r
noncomputable def k9{α:Type}(a:Nat)(l:List (Nat×α)):Bool:=oe (gQ a l) (λ_=>ae) af
noncomputable def tq{α:Type}(a:aQ)(x:Str):List (aQ×Str×α)→Option α
 | []=>bg
 |(b,y,v)::r=>match aH a b&&seq x y with|true=>ag v|false=>tq a x r
noncomputable def mZ(a:aQ)(x:Str):List (aQ×Str)→Bool
 | []=>af
 |(b,y)::r=>match aH a b&&seq x y with|true=>ae|false=>mZ a x r
noncomputable def yW(a b:Nat):List (Nat×Nat×Bool)→Option Bool
 | []=>bg
 |(c,d,v)::r=>match aH a c&&aH b d with|true=>ag v|false=>yW a b r
noncomputable def vU{α:Type}(x:List Nat):List (List Nat×α)→Option α
 | []=>bg
 |(y,v)::r=>match aB x y with|true=>ag v|false=>vU x r
theorem vV{α:Type}{a:Nat}{v:α}{l:List (Nat×α)}(h:gQ a l=ag v):(a,v)∈l:=by
 induction l with
 |nil=>cases h
 |cons p r ih=>
  unfold gQ at h
  cases q:aH a p.1 with
  |true=>rw[q]at h;cases h;rw[bG q];exact .head _
  |false=>rw[q]at h;exact .tail _ (ih h)
theorem yp{α:Type}{a:Nat}{l:List (Nat×α)}(h:k9 a l=ae):∃v,(a,v)∈l:=by
 unfold k9 at h
 cases q:gQ a l with
 |none=>rw[q]at h;cases h
 |some v=>exact⟨v,vV q⟩
theorem DV{α:Type}{a:aQ}{x:Str}{v:α}{l:List (aQ×Str×α)}(h:tq a x l=ag v):(a,x,v)∈l:=by
 induction l with
 |nil=>cases h
 |cons p r ih=>
  unfold tq at h
  cases q:aH a p.1&&seq x p.2.1 with
  |true=>rw[q]at h;cases h;obtain⟨q1,q2⟩:=aF q;rw[bG q1,eN.mp q2];exact .head _
  |false=>rw[q]at h;exact .tail _ (ih h)
theorem o_{a:aQ}{x:Str}{l:List (aQ×Str)}(h:mZ a x l=ae):(a,x)∈l:=by
 induction l with
 |nil=>cases h
 |cons p r ih=>
  unfold mZ at h
  cases q:aH a p.1&&seq x p.2 with
  |true=>obtain⟨q1,q2⟩:=aF q;rw[bG q1,eN.mp q2];exact .head _
  |false=>rw[q]at h;exact .tail _ (ih h)
theorem XX{a b:Nat}{v:Bool}{l:List (Nat×Nat×Bool)}(h:yW a b l=ag v):(a,b,v)∈l:=by
 induction l with
 |nil=>cases h
 |cons p r ih=>
  unfold yW at h
  cases q:aH a p.1&&aH b p.2.1 with
  |true=>rw[q]at h;cases h;obtain⟨q1,q2⟩:=aF q;rw[bG q1,bG q2];exact .head _
  |false=>rw[q]at h;exact .tail _ (ih h)
theorem XY{α:Type}{x:List Nat}{v:α}{l:List (List Nat×α)}(h:vU x l=ag v):(x,v)∈l:=by
 induction l with
 |nil=>cases h
 |cons p r ih=>
  unfold vU at h
  cases q:aB x p.1 with
  |true=>rw[q]at h;cases h;rw[pq q];exact .head _
  |false=>rw[q]at h;exact .tail _ (ih h)
noncomputable def jv{α:Type}(a:Int):List (Int×α)→Option α
 | []=>bg
 |(b,v)::r=>match aI b a with|true=>ag v|false=>jv a r
noncomputable def pR{α:Type}(a:Int)(v:α):List (Int×α)→List (Int×α)
 | []=>[(a,v)]
 |(b,u)::r=>match aI b a with|true=>(b,v)::r|false=>(b,u)::pR a v r
noncomputable def mM{α:Type}(a:Int):List (Int×α)→List (Int×α)
 | []=>[]
 |(b,u)::r=>match aI b a with|true=>r|false=>(b,u)::mM a r
inductive Out where
 |next|brk|cont|ret (v:V)|exc (v:V)
inductive Res where
 |ok (v:V)|exc (v:V)
abbrev R:=Out×aq
abbrev au:=List Bool→R→Prop
inductive Gv(a:au)(r:R):Prop
 |mk (p:List Bool) (h:a p r)
def fail:au:=λ_ _=>False
def leaf(q:R):au:=λ_ r=>r=q
def Tt(b:Bool)(A:au):au:=λp r=>lG b False (A p r)
def Ff(b:Bool)(A:au):au:=λp r=>lG b (A p r) False
def Ob{α:Type}(o:Option α)(f:α→au):au:=λp r=>pO o False λa=>f a p r
def Oe{α:Type}(o:Option α)(f:α→au)(g:au):au:=λp r=>pO o (g p r) λa=>f a p r
def Bs(b:Bool)(f g:au):au:=λp r=>lG b (g p r) (f p r)
def Br(b:Bool)(f g:au):au:=λp r=>cv p False λd p=>lG d (b=af∧g p r) (b=ae∧f p r)
section
variable{α:Type}{P:Prop}{r:R}{A f g:au}
theorem bF{b:Bool}(h:Gv (Tt b A) r)(k:b=ae→Gv A r→P):P:=by
 obtain⟨p,h⟩:=h
 cases b with
 |true=>exact k rfl ⟨p,h⟩
 |false=>exact h.elim
theorem Gl{b:Bool}(h:Gv (Ff b A) r)(k:b=af→Gv A r→P):P:=by
 obtain⟨p,h⟩:=h
 cases b with
 |false=>exact k rfl ⟨p,h⟩
 |true=>exact h.elim
theorem a_{o:Option α}{f:α→au}(h:Gv (Ob o f) r)(k:∀x,o=ag x→Gv (f x) r→P):P:=by
 obtain⟨p,h⟩:=h
 cases o with
 |some x=>exact k x rfl ⟨p,h⟩
 |none=>exact h.elim
theorem eC{o:Option α}{f:α→au}(h:Gv (Oe o f g) r)(k:∀x,o=ag x→Gv (f x) r→P)(k' :o=bg→Gv g r→P):P:=by
 obtain⟨p,h⟩:=h
 cases o with
 |some x=>exact k x rfl ⟨p,h⟩
 |none=>exact k' rfl ⟨p,h⟩
theorem xe{b:Bool}(h:Gv (Bs b f g) r)(k:b=ae→Gv f r→P)(k' :b=af→Gv g r→P):P:=by
 obtain⟨p,h⟩:=h
 cases b with
 |true=>exact k rfl ⟨p,h⟩
 |false=>exact k' rfl ⟨p,h⟩
theorem mB{b:Bool}(h:Gv (Br b f g) r)(k:b=ae→Gv f r→P)(k' :b=af→Gv g r→P):P:=by
 obtain⟨p,h⟩:=h
 cases p with
 |nil=>exact h.elim
 |cons d p=>cases d with
  |true=>exact k h.1 ⟨p,h.2⟩
  |false=>exact k' h.1 ⟨p,h.2⟩
theorem No(h:Gv fail r):P:=by obtain⟨p,h⟩:=h;exact h.elim
theorem So{q:R}(h:Gv (leaf q) r):r=q:=by obtain⟨p,h⟩:=h;exact h
theorem Gv.leaf(q:R):Gv (leaf q) q:=⟨[],rfl⟩
end
abbrev Fn:=List V→List (Str×V)→Self→(Res→Self→au)→au
abbrev Lp:=aq→(Out→aq→au)→au
structure aX where
 kind:Str→Option NameKind
 jq:List (Str×V)
 attrs:List (aQ×Str)
 jI:List (aQ×Str×V)
 meths:List (aQ×Str×aQ)
 fns:List (aQ×Fn)
 ctors:List (aQ×aQ×Fn)
 loops:List (Nat×Lp)
 insts:List (aQ×aQ×Bool)
 g7:List (aQ×aQ×List Str)
 calm:List (aQ×Fn)
 quiet:Bool
 dep:Nat
 top:Bool:=af
noncomputable def isLocal(k:Option NameKind):Bool:=oe k (λk=>rq k ae af af af af) af
noncomputable def qW(k:Option NameKind):Bool:=oe k (λk=>rq k af af af af ae) af
theorem yF{k:Option NameKind}(h:isLocal k=ae):k=ag .local:=by
 cases k with
 |none=>cases h
 |some k=>cases k<;>first|rfl|cases h
theorem WV{k:Option NameKind}(h:qW k=ae):k=ag .globalImplicit:=by
 cases k with
 |none=>cases h
 |some k=>cases k<;>first|rfl|cases h
inductive Pl where
 |loc (id:Str)|fld (a:Str)
noncomputable def Pl.get(st:aq)(p:Pl):Option (List V):=Pl.casesOn p (λid=>ob (aV id st.loc) FV.o?) (λa=>ff st.free (ob st.self λc=>ob (aV a c.2) FV.o?))
noncomputable def Pl.put(st:aq)(l:List V)(p:Pl):aq:=Pl.casesOn p (λid=>⟨di id (.own l) st.loc,st.self,st.free⟩) (λa=>⟨st.loc,st.self.map λc=>(c.1,di a (.own l) c.2),st.free⟩)
noncomputable def aZ:Nat:=16000000
noncomputable def short{α:Type}(l:List α):Bool:=aJ l.length aZ
noncomputable def truth(v:V):Option Bool:=V.casesOn v (ag af) ag (λi=>ag (!(decide (i=0)))) (λs=>ag (cY s)) (λ_=>bg) (λs=>tt (short s) (ag (cY s))) (λ_ _=>bg) bg bg (λ_=>bg) (λ_=>bg) (λ_=>bg)
noncomputable def ltI(a b:Int):Bool:=decide (a<b)
noncomputable def bO(a b:Int):Bool:=decide (a≤b)
noncomputable def A0(a b:V):Option V:=oe a.i? (λi=>ob b.i? λj=>ag (.int (i+j))) (ob a.s? λs=>ob b.s? λt=>tt (aJ (s.length+t.length) 16777216) (ag (.str (s++t))))
noncomputable def p7(a b:V)(k:Int→Int→Option V):Option V:=ob a.i? λi=>ob b.i? λj=>k i j
noncomputable def kQ(op:mj)(a b:V):Option V:=match op with
 |.Add=>A0 a b
 |.Sub=>p7 a b λi j=>ag (.int (i -j))
 |.Mod=>p7 a b λi j=>tt (ltI 0 j) (ag (.int (i%j)))
 |.FloorDiv=>p7 a b λi j=>tt (ltI 0 j&&ltI j 1000000) (ag (.int (i/j)))
 |_=>bg
noncomputable def Io:List Nat:=[102,111,117,110,100,32,117,110,107,110,111,119,110,32,101,115,99,97,112,101,32,99,104,97,114,97,99,116,101,114,32,37,114]
noncomputable def Ip:List Nat:=[101,120,112,101,99,116,101,100,32,101,115,99,97,112,101,32,115,101,113,117,101,110,99,101,32,111,102,32,37,100,32,104,101,120,97,100,101,99,105,109,97,108,32,110,117,109,98,101,114,115,44,32,98,117,116,32,102,111,117,110,100,32,37,114]
noncomputable def JY(b:Bi):Bool:=match b with|.range=>ae|_=>af
noncomputable def JS(b:Bi):Bool:=match b with|.enum=>ae|_=>af
noncomputable def isAdd(op:mj):Bool:=match op with|.Add=>ae|_=>af
noncomputable def J0(op:mj):Bool:=match op with|.Sub=>ae|_=>af
noncomputable def JU(op:mj):Bool:=match op with|.Mod=>ae|_=>af
noncomputable def sign(v:V):Option Nat:=ob v.s? λt=>ob (one t) λc=>tt (iL c 1114112) (ag c)
noncomputable def kY(op:mj)(a b:V):Option V:=tt (JU op) (ob a.s? λf=>oe (sign b) (λ_=>tt (aB f Io) (ag .junk))
 (ob b.t? λl=>ob (two l) λp=>ob p.1.i? λi=>ob (sign p.2) λ_=>tt (aB f Ip&&(bO 0 i&&ltI i 1000)) (ag .junk)))
noncomputable def zb(op:mj)(a b:V):Option (List V):=tt (isAdd op) (ob a.l? λx=>ob b.l? λy=>tt (aJ (x.length+y.length) aZ) (ag (x++y)))
noncomputable def kf(s t:List Nat):Option Bool:=oe (one s) (λc=>ag (t.contains c)) (tt (isNil s) (ag ae))
noncomputable def lW(s:List Nat):List V→Option Bool
 | []=>ag af
 |y::r=>ob y.s? λt=>ob (lW s r) λb=>ag (br (aB t s) ae b)
noncomputable def vT(a b:List Nat)(k:Nat→Nat→Bool):Option V:=ob (one a) λx=>ob (one b) λy=>ag (.bool (k x y))
noncomputable def iA(f:V→V→Option Bool):List V→List V→Option Bool
 | [],r=>ag (isNil r)
 |a::r,t=>cv t (ag af) λb t=>ob (f a b) λc=>ob (iA f r t) λd=>ag (c&&d)
noncomputable def kd(v:V):Option Nat:=V.casesOn v (ag 0) (λ_=>ag 1) (λ_=>ag 2) (λ_=>ag 3) (λ_=>ag 4) (λ_=>ag 5) (λ_ _=>bg) bg bg (λ_=>bg) (λ_=>bg) (λ_=>bg)
noncomputable def cN:Nat→V→V→Option Bool
 |0,_,_=>bg
 |n+1,a,b=>oe a.i? (λi=>oe b.i? (λj=>ag (aI i j)) (tt (oe b.n? id af) (ag af)))
  (oe a.s? (λi=>oe b.s? (λj=>ag (aB i j)) (tt (oe b.n? id af) (ag af)))
  (oe a.t? (λi=>oe b.t? (λj=>iA (cN n) i j) (tt (oe b.n? id af) (ag af)))
  (oe a.l? (λi=>ob b.l? λj=>iA (cN n) i j)
  (oe a.b? (λi=>ob b.b? λj=>ag (i==j))
  (tt (oe a.n? id af) (br (oe b.n? id af) (ag ae) (oe b.i? (λ_=>ag af) (oe b.s? (λ_=>ag af) (ob b.t? λ_=>ag af)))))))))
noncomputable def yI(neg:Bool)(a b:V):Option V:=br (oe b.n? id af) (ob a.n? λc=>ag (.bool (br neg (!c) c)))
 (ob b.b? λd=>br (oe a.n? id af) (ag (.bool (br neg ae af))) (ob a.b? λc=>ag (.bool (br neg (!(c==d)) (c==d)))))
noncomputable abbrev Nw(s:List Nat)(l:List (Str×V)):Option V:=aV ⟨s.toArray⟩ l
noncomputable abbrev dj(s:List Nat)(l:List (Str×V)):Bool:=oe (Nw s l) (λ_=>ae) af
noncomputable def gN(op:CmpOp)(a b:V):Option V:=match op with
 |.Eq=>ob (cN 8 a b) λc=>ag (.bool c)
 |.NotEq=>oe a.i? (λi=>ob b.i? λj=>ag (.bool (!(aI i j)))) (ob a.s? λi=>ob b.s? λj=>ag (.bool (!(aB i j))))
 |.Lt=>oe a.i? (λi=>ob b.i? λj=>ag (.bool (ltI i j))) (ob a.s? λi=>ob b.s? λj=>vT i j iL)
 |.LtE=>oe a.i? (λi=>ob b.i? λj=>ag (.bool (bO i j))) (ob a.s? λi=>ob b.s? λj=>vT i j aJ)
 |.Gt=>p7 a b λi j=>ag (.bool (ltI j i))
 |.GtE=>p7 a b λi j=>ag (.bool (bO j i))
 |.In=>ob a.s? λs=>oe b.s? (λt=>ob (kf s t) λc=>ag (.bool c)) (oe b.t? (λl=>ob (lW s l) λc=>ag (.bool c)) (ob b.As λl=>ag (.bool (dj s l))))
 |.NotIn=>ob a.s? λs=>ob b.s? λt=>ob (kf s t) λc=>ag (.bool (!c))
 |.Is=>yI af a b
 |.IsNot=>yI ae a b
noncomputable def nC(l:List V)(i:Int):Option V:=tt (bO 0 i&&ltI i 4611686018427387904) l[i.toNat]?
noncomputable def bx(a i:V):Option V:=oe a.s? (λs=>ob i.i? λi=>tt (bO 0 i) (tt (ltI i s.length) (ag (.str [s.getD i.toNat 0]))))
 (oe a.l? (λl=>ob i.i? (nC l)) (oe a.t? (λl=>ob i.i? (nC l)) (ob a.As λl=>ob i.s? λs=>Nw s l)))
noncomputable def bound(d:Nat)(o:Option V):Option Nat:=oe o (λv=>ob v.i? λi=>tt (bO 0 i) (ag i.toNat)) (ag d)
noncomputable def fy(nm:Bool)(a:V)(i j:Option V):Option V:=oe a.s? (λs=>ob (ob i V.i?) λi=>ob (ob j V.i?) λj=>tt (bO 0 i&&bO 0 j) (ag (.str ((s.take j.toNat).drop i.toNat))))
 (ob a.l? λs=>tt (nm&&short s) (ob (bound 0 i) λi=>ob (bound s.length j) λj=>ag (.lst ((s.take j).drop i))))
mutual
noncomputable def dT:V→Bool
 |.ak=>af
 |.tup l=>d6 l
 |.lst l=>d6 l
 |.obj _ fs=>lA fs
 |.tab fs=>lA fs
 |_=>ae
noncomputable def d6:List V→Bool
 | []=>ae
 |y::r=>dT y&&d6 r
noncomputable def lA:List (Str×V)→Bool
 | []=>ae
 |(_,y)::r=>dT y&&lA r
end
noncomputable def zY:FS→Option (List (Str×V))
 | []=>ag []
 |(nm,y)::r=>ob y.v? λy=>ob (zY r) λl=>ag ((nm,y)::l)
noncomputable def A9{α:Type}:List (Str×α)→Bool
 | []=>ae
 |p::r=>oe (aV p.1 r) (λ_=>af) ae&&A9 r
noncomputable def frozen(fs:FS):Option (List (Str×V)):=tt (A9 fs) (ob (zY fs) λl=>tt (lA l) (ag l))
inductive LM where
 |append|extend|pop
noncomputable def GL:Str:=ai "append"
noncomputable def H9:Str:=ai "extend"
noncomputable def Mc:Str:=ai "pop"
noncomputable def DD:Str:=ai "join"
noncomputable def lm(m:Str):Option LM:=br (seq m GL) (ag .append) (br (seq m H9) (ag .extend) (tt (seq m Mc) (ag .pop)))
noncomputable def wA:List V→Option (List V×V)
 | []=>bg
 |y::r=>cv r (ag ([],y)) λ_ _=>ob (wA r) λp=>ag (y::p.1,p.2)
noncomputable def Ki(l:List V)(m:LM)(vs:List V):Option (List V×V):=LM.casesOn m
 (ob (one vs) λv=>tt (short l) (ag (l++[v],.none)))
 (ob (one vs) λv=>ob v.l? λl2=>tt (aJ (l.length+l2.length) aZ) (ag (l++l2,.none)))
 (tt (short l) (br (isNil vs) (wA l) (ob (one vs) λv=>ob v.i? λi=>tt (aI i 0) (cv l bg λy r=>ag (r,y)))))
noncomputable def DT(l:List V)(m:LM)(vs:List V):Option (Bool×List V×V):=LM.casesOn m
 (ob (one vs) λv=>ag (short l,l++[v],.none))
 (ob (one vs) λv=>ob v.l? λl2=>ag (aJ (l.length+l2.length) aZ,l++l2,.none))
 (br (isNil vs) (ob (wA l) λq=>ag (short l,q)) (ob (one vs) λv=>ob v.i? λi=>tt (aI i 0) (cv l bg λy r=>ag (short l,r,y))))
noncomputable def yV(p:Pl)(m:LM)(vs:List V)(st:aq)(k:V→aq→au):au:=Ob (p.get st) λl=>Ob (DT l m vs) λq=>Tt q.1 (k q.2.2 (p.put st q.2.1))
noncomputable def gq:List V→Option (List Nat)
 | []=>ag []
 |y::r=>ob y.s? λs=>ob (gq r) λt=>ag (s++t)
noncomputable def yt:List (List Nat×Nat):=[([52,97],74),([50,54,51,65],9786),([48,48,48,49,102,54,48,65],128522),([55,69],126),([99,69],206),([53,98,67,100],23501),([57,56,102,70],39167),([48,48,48,49,68,52,66,101],119998)]
noncomputable def jx(e:aw):Option (Str×Pos):=j4 e.ctorIdx 23 λh=>zH (motive_1:=λ_=>Str×Pos) e h λid p=>(id,p)
noncomputable def isName(e:aw):Bool:=oe (jx e) (λ_=>ae) af
noncomputable def baseOk(e:aw):Bool:=match e with|.Call .. =>af|_=>ae
noncomputable def zZ(e:aw):Bool:=match e with
 |.Name .. =>ae
 |.Attribute .. =>ae
 |.Call .. =>ae
 |.Constant .. =>ae
 |_=>af
noncomputable def ng(e:aw):Bool:=match e with
 |.Call .. =>ae
 |.Name .. =>ae
 |.Subscript .. =>ae
 |.Attribute .. =>ae
 |_=>af
noncomputable def isConst(e:aw):Bool:=match e with|.Constant .. =>ae|_=>af
noncomputable def Fy(e:aw):Bool:=match e with|.Starred .. =>ae|_=>af
noncomputable def j2:List aw→Bool
 | []=>ae
 |e::r=>!(Fy e)&&j2 r
noncomputable def vQ:List Keyword→Bool
 | []=>ae
 |k::r=>oe k.arg (λ_=>ae) af&&vQ r
noncomputable def gU(l:List aw)(aE:List Keyword):Bool:=j2 l&&(vQ aE&&iL (l.length+aE.length) 20)
noncomputable def nameOf(e:aw):Option Str:=ob (jx e) λq=>ag q.1
noncomputable def oH(e:aw):Option (aw×Str×Pos):=j4 e.ctorIdx 20 λh=>zP (motive_1:=λ_=>aw×Str×Pos) e h λo a p=>(o,a,p)
noncomputable def Ar(e:aw):Option (aw×aw×Pos):=j4 e.ctorIdx 21 λh=>zQ (motive_1:=λ_=>aw×aw×Pos) e h λo i p=>(o,i,p)
noncomputable def Au(e:aw):Option (List aw×Nat×Pos):=j4 e.ctorIdx 25 λh=>zA (motive_1:=λ_=>List aw×Nat×Pos) e h λts k p=>(ts,k,p)
noncomputable def uF(e:aw):Option (Str×Str):=ob (oH e) λq=>ob (nameOf q.1) λo=>ag (o,q.2.1)
noncomputable def sliceOf(e:aw):Option (Option aw×Option aw):=match e with|.Slice lo hi st _=>oe st (λ_=>bg) (ag (lo,hi))|_=>bg
noncomputable def constOf(c:Const):Option V:=match c with
 |.none=>ag .none
 |.bool b=>ag (.bool b)
 |.int i=>ag (.int i)
 |.str s=>tt (aJ s.cps.toList.length 16777216) (ag (.str s.cps.toList))
 |_=>bg
noncomputable def intOf(e:aw):Option Int:=match e with|.Constant c _ _=>(match c with|.int i=>ag i|_=>bg)|_=>bg
noncomputable def pH(e:aw):Bool:=match e with|.Slice .. =>af|_=>ae
noncomputable def qr(ops:List CmpOp)(rs:List aw):Option (CmpOp×aw):=ob (one ops) λop=>ob (one rs) λr=>tt (!(behindInMarks op r)) (ag (op,r))
noncomputable def uQ(ops:List CmpOp)(rs:List aw):Option ((CmpOp×CmpOp)×aw×aw):=ob (two ops) λo=>ob (two rs) λr=>tt (isConst r.2&& !(lastMarks ops rs)) (ag (o,r))
structure Comp where
 elt:aw
 id:Str
 iter:aw
 sc:Scope
 pos:Pos
noncomputable def IW(g:Comprehension):Option (Str×aw):=ob (nameOf g.target) λid=>tt (isNil g.ifs&&decide (g.is_async=0)) (ag (id,g.iter))
noncomputable def xK(elt:aw)(gs:List Comprehension)(sc:Scope)(pos:Pos):Option Comp:=ob (one gs) λg=>ob (IW g) λq=>ag ⟨elt,q.1,q.2,sc,pos⟩
noncomputable def BB(e:aw):Option Comp:=match e with|.ListComp elt gs sc pos=>xK elt gs sc pos|_=>bg
noncomputable def zo(e:aw):Bool:=match e with|.Tuple .. =>af|_=>ae
noncomputable def fV(e:aw):Bool:=match e with
 |.ListComp .. =>af
 |.SetComp .. =>af
 |.DictComp .. =>af
 |_=>ae
noncomputable def K3(e:aw):Bool:=match e with|.List es _=>isNil es|_=>af
noncomputable def noDict(e:aw):Bool:=match e with|.Dict ks vs _=>isNil ks&&isNil vs|_=>af
noncomputable def sM:aw→Bool
 |.List .. =>ae
 |.BinOp l op r _=>isAdd op&&(sM l||sM r)
 |.IfExp _ b o _=>sM b&&sM o
 |_=>af
noncomputable def XW(k:NameKind):Bool:=rq k ae af af ae ae
noncomputable def kL(f:Str→NameKind→Bool):List (Str×NameKind)→Bool
 | []=>ae
 |(y,k)::r=>f y k&&kL f r
noncomputable def oN:Str:=ai "__debug__"
noncomputable def yh(k:ScopeKind):Bool:=match k with|.function=>ae|_=>af
noncomputable def qt(sc:Scope)(id:Str):Bool:=yh sc.kind&&(kL (λ_ k=>XW k) sc.names&&(kL (λy k=>!(isLocal (ag k))||isLocal (aV y sc.names)) sc.names&&isLocal (aV id sc.names)))
noncomputable def DA(v:V):Option (List V):=oe v.l? ag v.t?
noncomputable def oR:Nat→aw→List (Str×V)→Option V
 |0,_,_=>bg
 |n+1,e,m=>match e with
  |.Constant c a b=>ob (intOf (.Constant c a b)) λi=>ag (.int i)
  |.Name id _=>aV id m
  |.BinOp l op r _=>ob (oR n l m) λa=>ob (oR n r m) λb=>kQ op a b
  |.Subscript o i _=>ob (intOf i) λi=>ob (oR n o m) λv=>ob v.t? λl=>nC l i
  |_=>bg
noncomputable def pE(elt:aw)(id:Str):List V→Option (List V)
 | []=>ag []
 |v::r=>ob (oR 20 elt [(id,v)]) λy=>ob (pE elt id r) λys=>ag (y::ys)
mutual
noncomputable def lJ:V→Bool
 |.none=>ae
 |.bool _=>ae
 |.int _=>ae
 |.str _=>ae
 |.tup l=>jZ l
 |_=>af
noncomputable def jZ:List V→Bool
 | []=>ae
 |y::r=>lJ y&&jZ r
end
noncomputable def lQ(elt:aw)(id:Str)(v:V):Option (List V):=ob v.l? λl=>tt (jZ l&&short l) (pE elt id l)
noncomputable def uH(op:mj):Bool:=isAdd op||J0 op
section
variable(G:aX)
noncomputable def q8(id:Str)(st:aq):Option FV:=tt (isLocal (G.kind id)) (aV id st.loc)
noncomputable def gp(o:Str)(st:aq):Bool:=oe (ob (q8 G o st) FV.v?) V.pV af
noncomputable def wG(C:aQ)(fs:FS)(a:Str):Option FV:=ob (aV a fs) λy=>tt (mZ C a G.attrs) (ag y)
noncomputable def placeOf(e:aw)(st:aq):Option Pl:=oe (nameOf e) (λid=>ob (ob (q8 G id st) FV.o?) λ_=>ag (.loc id))
 (ob (uF e) λp=>tt (gp G p.1 st) (ff st.free (ob st.self λc=>ob (ob (wG G c.1 c.2 p.2) FV.o?) λ_=>ag (.fld p.2))))
noncomputable def keysAt(e:aw)(st:aq):Option (Str×List (Int×V)):=ob (uF e) λp=>tt (gp G p.1 st) (ob st.self λc=>ob (ob (wG G c.1 c.2 p.2) FV.k?) λl=>ag (p.2,l))
noncomputable def Ih(v:V)(a:Str)(st:aq):Option (aQ×Option FV):=br v.pV (ob st.self λc=>ag (c.1,aV a c.2)) (ob v.o? λc=>ag (c.1,oe (aV a c.2) (λy=>ag (.v y)) bg))
noncomputable def uG(v:V)(a:Str)(st:aq):Option V:=ob (Ih v a st) λq=>oe q.2 (λy=>ob y.v? λy=>tt (mZ q.1 a G.attrs) (ag y)) (tq q.1 a G.jI)
noncomputable def qE:Nat→aw→aq→Option V
 |0,_,_=>bg
 |n+1,e,st=>match e with
  |.Constant c _ _=>constOf c
  |.Name id _=>ob (q8 G id st) FV.v?
  |.Attribute o a _=>tt (baseOk o) (ob (qE n o st) λv=>uG G v a st)
  |.Subscript o i _=>tt (pH i) (ob (keysAt G o st) λq=>ob (qE n i st) λv=>ob v.i? λj=>jv j q.2)
  |.Compare l ops rs _=>ob (qr ops rs) λq=>ob (qE n l st) λa=>ob (qE n q.2 st) λb=>gN q.1 a b
  |_=>bg
noncomputable def qT:Nat→aw→aq→Option Bool
 |0,_,_=>bg
 |n+1,e,st=>match e with
  |.BoolOp op es _=>ob (two es) λq=>zE op bg (ob (qT n q.1 st) λb=>br b (ag ae) (qT n q.2 st))
  |.Compare l ops rs _=>ob (qr ops rs) λq=>ob (qE G 20 l st) λa=>ob (qE G 20 q.2 st) λb=>ob (gN q.1 a b) V.b?
  |_=>bg
noncomputable def qS:Nat→aG→aq→Option aq
 |0,_,_=>bg
 |n+1,s,st=>match s with
  |.Assign ts e _=>ob (one ts) λt=>ob (nameOf t) λid=>tt (isLocal (G.kind id)&&fV e) (ob (qE G 20 e st) λv=>ag (d7 id v st))
  |.If t b o _=>tt (isNil o) (ob (qT G 20 t st) λc=>br c (z7 n b st) (ag st))
  |_=>bg
where z7:Nat→List aG→aq→Option aq
 |0,_,_=>bg
 |n+1,ss,st=>cv ss (ag st) λs r=>ob (qS n s st) λst=>z7 n r st
noncomputable def gh(b:Bi)(vs:List V):Option V:=match b with
 |.len=>ob (one vs) λv=>oe v.s? (λs=>ag (.int s.length)) (ob (DA v) λs=>tt (short s) (ag (.int s.length)))
 |.chr=>ob (one vs) λv=>ob v.i? λi=>tt (bO 0 i&&ltI i 1114112) (ag (.str [i.toNat]))
 |.int=>oe (one vs) (λv=>ob v.s? λs=>tt (aJ s.length 640) (ob (PySem.intText? ⟨s.toArray⟩) λi=>ag (.int i)))
  (ob (two vs) λq=>ob q.1.s? λs=>ob q.2.i? λb=>tt (aI b 16) (ob (vU s yt) λn=>ag (.int (n:Nat))))
 |.Dy=>ob (two vs) λq=>oe q.1.s? (λ_=>ob q.2.qm λb=>(match b with|.str=>ag (.bool ae)|_=>bg))
  (ob q.1.o? λc=>ob q.2.Fv λv=>(match v with|.ref D=>ob (yW c.1 D G.insts) λb=>ag (.bool b)|_=>bg))
 |.max=>ob (two vs) λq=>p7 q.1 q.2 λa b=>tt G.quiet (ag (.int (br (ltI a b) b a)))
 |_=>bg
noncomputable def Bj(b:Bi)(args:List aw)(st:aq):Option (Bool×V):=match b with
 |.len=>ob (one args) λe=>ob (placeOf G e st) λp=>ob (p.get st) λl=>ag (short l,.int l.length)
 |.list=>ob (one args) λe=>ob (keysAt G e st) λq=>ag (G.quiet&&aJ q.2.length 1000,.lst (q.2.map λp=> .int p.1))
 |_=>bg
noncomputable def lstP(op:mj)(a b:V):Option (Bool×List V):=tt (isAdd op) (ob a.l? λx=>ob b.l? λy=>ag (aJ (x.length+y.length) aZ,x++y))
noncomputable def FE(op:mj)(a b:V):Option (Bool×List Nat):=tt (isAdd op) (ob a.s? λx=>ob b.s? λy=>ag (aJ (x.length+y.length) 16777216,x++y))
noncomputable def yL(a i:V)(k:V→au):au:=Oe a.s? (λs=>Ob i.i? λj=>Tt (bO 0 j) (Tt (ltI j s.length) (k (.str [s.getD j.toNat 0])))) (Ob (bx a i) k)
noncomputable def isStr(a:V):Bool:=oe a.s? (λ_=>ae) af
noncomputable def DF(op:mj)(a b:V)(k:V→au):au:=Bs (isAdd op&&isStr a) (Ob (FE op a b) (λq=>Tt q.1 (k (.str q.2)))) (Oe (lstP op a b) (λq=>Tt q.1 (k (.lst q.2))) (Oe (FE op a b) (λq=>Tt q.1 (k (.str q.2))) (Oe (kQ op a b) k (Ob (kY op a b) k))))
noncomputable def Hj(v:V)(m:Str)(aE:List Keyword)(st:aq):Option (Option aQ):=br v.pV (ob st.self λc=>oe (aV m c.2) (λ_=>bg) (ob (tq c.1 m G.meths) λf=>ag (ag f)))
 (ob v.s? λs=>tt (seq m DD&&(isNil s&&isNil aE)) (ag bg))
noncomputable def yN(vs:List V)(k:V→au):au:=Ob (one vs) λv=>Ob v.l? λl=>Ob (gq l) λt=>Tt (short t&&short l) (k (.str t))
noncomputable def refOf(v:V):Option aQ:=ob v.Fv λv=>(match v with|.ref f=>ag f|_=>bg)
noncomputable def wD(st:aq)(k x:V→aq→au)(r:Res)(s:Self):au:=Res.casesOn r (λv=>k v ⟨st.loc,s,st.free⟩) (λv=>x v ⟨st.loc,s,st.free⟩)
noncomputable def KA(st:aq)(k:V→aq→au)(r:Res)(s:Self):au:=Res.casesOn r (λv=>Tt (oe v.n? id af) (Ob s λc=>Ob (frozen c.2) λgs=>k (.obj c.1 gs) st)) (λ_=>fail)
noncomputable def Bx(f:aQ)(vs:List V)(ks:List (Str×V))(st:aq)(k x:V→aq→au):au:=Oe (gQ f G.fns) (λF=>F vs ks st.self (wD st k x))
 (Ob (gQ f G.ctors) λq=>Tt (d6 vs&&lA ks) (q.2 (.ak::vs) ks (ag (f,[])) (KA st k)))
noncomputable def vJ(op:CmpOp)(v:Option V)(kvs:List (Int×V))(k:Bool→au):au:=match op with|.In=>Ob (ob v V.i?) λi=>k (oe (jv i kvs) (λ_=>ae) af)|_=>fail
noncomputable def KR(id:Str)(st:aq)(k:V→aq→au):au:=Oe (aV id st.loc) (λy=>Tt (isLocal (G.kind id)) (Oe y.v? (λy=>k y st) (Ob y.o? λl=>k (.lst l) (d7 id (.lst l) st))))
 (Tt (qW (G.kind id)) (Ob (aV id G.jq) λy=>k y st))
mutual
noncomputable def bc:Nat→aw→aq→(V→aq→au)→(V→aq→au)→au
 |0,_,_,_,_=>fail
 |n+1,e,st,k,x=>match e with
  |.Constant c _ _=>Ob (constOf c) λy=>k y st
  |.Name id _=>KR G id st k
  |.Attribute o a _=>Tt (baseOk o) (bc n o st (λv st=>Ob (uG G v a st) λy=>k y st) x)
  |.BinOp l op r _=>bc n l st (λa st=>bc n r st (λb st=>DF op a b λv=>k v st) x) x
  |.Compare l ops rs _=>Oe (qr ops rs) (λq=>Oe (keysAt G q.2 st) (λp=>vJ q.1 (qE G 20 l st) p.2 λb=>k (.bool b) st)
   (bc n l st (λa st=>bc n q.2 st (λb st=>Ob (gN q.1 a b) λv=>k v st) x) x))
   (Ob (uQ ops rs) λq=>bc n l st (λa st=>bc n q.2.1 st (λb st=>Ob (ob (gN q.1.1 a b) V.b?) λd=>Br d (bc n q.2.2 st (λc st=>Ob (ob (gN q.1.2 b c) V.b?) λd=>k (.bool d) st) x) (k (.bool af) st)) x) x)
  |.BoolOp op es _=>xT n op es st k x
  |.UnaryOp op e _=>(match op with
   |.Not=>bc n e st (λa st=>Ob (truth a) λb=>k (.bool (!b)) st) x
   |.USub=>bc n e st (λa st=>Ob a.i? λi=>k (.int (-i)) st) x
   |_=>fail)
  |.IfExp t b o _=>iV n t st (λc st=>Br c (bc n b st k x) (bc n o st k x)) x
  |.Subscript o i _=>Oe (keysAt G o st) (λq=>Tt (pH i) (Ob (ob (qE G 20 i st) V.i?) λj=>Ob (jv j q.2) λy=>k y st))
   (bc n o st (λa st=>Oe (sliceOf i) (λq=>mR n q.1 st (λi st=>mR n q.2 st (λj st=>Ob (fy (isName o) a i j) λv=>k v st) x) x)
    (Tt (pH i) (bc n i st (λi st=>yL a i λv=>k v st) x))) x)
  |.Call f args aE pos=>Tt (gU args aE) (Oe (oH f) (λa=>Tt (baseOk a.1&&aH a.2.2.endLine pos.line) (Oe (placeOf G a.1 st) (λp=>Tt (isNil aE) (Ob (lm a.2.1) λq=>dS n args st (λvs st=>yV p q vs st k) x))
   (bc n a.1 st (λv st=>Ob (Hj G v a.2.1 aE st) λq=>dS n args st (λvs st=>kW n aE st (λks st=>Oe q (λf=>Ob (gQ f G.fns) λF=>F (.ak::vs) ks st.self (wD st k x)) (yN vs λy=>k y st)) x) x) x)))
   (Ob (jx f) λa=>bc n (.Name a.1 a.2) st (λv st=>Oe (refOf v) (λf=>Tt (k9 f G.fns||k9 f G.ctors) (dS n args st (λvs st=>kW n aE st (λks st=>Bx G f vs ks st k x) x) x))
    (Ob v.qm λb=>Tt (isNil aE) (Oe (Bj G b args st) (λy=>Tt y.1 (k y.2 st)) (dS n args st (λvs st=>Ob (gh G b vs) λy=>k y st) x)))) x))
  |.Tuple es _ _=>Tt (j2 es) (dS n es st (λvs st=>Tt (aJ vs.length 1000) (k (.tup vs) st)) x)
  |.List es p=>kU n (.List es p) st (λl st=>k (.lst l) st) x
  |.ListComp elt gs sc pos=>Ob (xK elt gs sc pos) λq=>Tt (qt q.sc q.id&&(ng q.iter&&(G.quiet&& !(seq q.id oN)))) (bc n q.iter st (λv st=>Ob (lQ q.elt q.id v) λys=>k (.lst ys) st) x)
  |_=>fail
noncomputable def kU:Nat→aw→aq→(List V→aq→au)→(V→aq→au)→au
 |0,_,_,_,_=>fail
 |n+1,e,st,k,x=>match e with
  |.List es _=>Tt (j2 es) (dS n es st (λvs st=>Tt (aJ vs.length 1000) (k vs st)) x)
  |.BinOp l op r _=>bc n l st (λa st=>bc n r st (λb st=>Ob (lstP op a b) λq=>Tt q.1 (k q.2 st)) x) x
  |.IfExp t b o _=>iV n t st (λc st=>Br c (kU n b st k x) (kU n o st k x)) x
  |_=>fail
noncomputable def mR:Nat→Option aw→aq→(Option V→aq→au)→(V→aq→au)→au
 |0,_,_,_,_=>fail
 |n+1,e,st,k,x=>Oe e (λe=>bc n e st (λv st=>k (ag v) st) x) (k bg st)
noncomputable def xT:Nat→BoolOp→List aw→aq→(V→aq→au)→(V→aq→au)→au
 |0,_,_,_,_,_=>fail
 |n+1,op,es,st,k,x=>cv es fail λe r=>Bs (isNil r) (bc n e st k x) (bc n e st (λv st=>Ob (truth v) λb=>Br (zE op (!b) b) (k v st) (xT n op r st k x)) x)
noncomputable def dS:Nat→List aw→aq→(List V→aq→au)→(V→aq→au)→au
 |0,_,_,_,_=>fail
 |n+1,es,st,k,x=>cv es (k [] st) λe r=>bc n e st (λv st=>dS n r st (λvs st=>k (v::vs) st) x) x
noncomputable def kW:Nat→List Keyword→aq→(List (Str×V)→aq→au)→(V→aq→au)→au
 |0,_,_,_,_=>fail
 |n+1,es,st,k,x=>cv es (k [] st) λe r=>Ob e.arg λnm=>bc n e.value st (λv st=>kW n r st (λvs st=>k ((nm,v)::vs) st) x) x
noncomputable def iV:Nat→aw→aq→(Bool→aq→au)→(V→aq→au)→au
 |0,_,_,_,_=>fail
 |n+1,e,st,k,x=>match e with
  |.UnaryOp op e _=>(match op with
   |.Not=>iV n e st (λb st=>k (!b) st) x
   |_=>fail)
  |.BoolOp op es _=>qy n op es st k x
  |.Compare l ops rs _=>Oe (qr ops rs) (λq=>Oe (keysAt G q.2 st) (λp=>vJ q.1 (qE G 20 l st) p.2 λb=>k b st)
   (bc n l st (λa st=>bc n q.2 st (λb st=>Ob (ob (gN q.1 a b) V.b?) λv=>k v st) x) x))
   (Ob (uQ ops rs) λq=>bc n l st (λa st=>bc n q.2.1 st (λb st=>Ob (ob (gN q.1.1 a b) V.b?) λd=>Br d (bc n q.2.2 st (λc st=>Ob (ob (gN q.1.2 b c) V.b?) λd=>k d st) x) (k af st)) x) x)
  |e=>Tt (zZ e) (Oe (placeOf G e st) (λp=>Ob (p.get st) λl=>Tt (short l) (k (cY l) st)) (bc n e st (λv st=>Ob (truth v) λb=>k b st) x))
noncomputable def qy:Nat→BoolOp→List aw→aq→(Bool→aq→au)→(V→aq→au)→au
 |0,_,_,_,_,_=>fail
 |n+1,op,es,st,k,x=>cv es (k (zE op ae af) st) λe r=>iV n e st (λb st=>zE op (Br b (qy n op r st k x) (k af st)) (Br b (k ae st) (qy n op r st k x))) x
end
end
theorem aeq{M:Model}{A:eK}{E:ao→ay→Prop}{s:ay}{Q:ao→ay→Prop}{v:ao}{text:List Nat}{n:Int}
 (hs:(text.takeWhile (· !=0)).length≤640) (hr:(int_private%"readNumeral") 0 16 (text.takeWhile (· !=0))=(int_private%"Numeral.value") n)
 (ha:((text.takeWhile (· !=0)).length==text.length)=ae) (h:Q (.int n s.toks) {s with toks:=s.toks+1}):
 aA M A ((int_private%"intFromText") v text 16) Q E s:=by
 obtain⟨hp,g,d,tk,os⟩:=s
 repeat (any_goals (first
  |assumption
  |(with_reducible refine wpAny_ite_true (decide_eq_true hs) ?_)
  |(with_reducible refine wpAny_ite_true (decide_eq_true ha) ?_)
  |wp_step))
 all_goals (try rw[hr])
 all_goals (try dsimp only)
 repeat (any_goals (first
  |assumption
  |(with_reducible refine wpAny_ite_true (decide_eq_true hs) ?_)
  |(with_reducible refine wpAny_ite_true (decide_eq_true ha) ?_)
  |wp_step))
structure O6(p:Prop):Prop where
 out:p
abbrev AQ(x:PySem.Str)(n:Int):Prop:=(numSeenOf x).length≤640∧(int_private%"readNumeral") 0 16 (numSeenOf x)=(int_private%"Numeral.value") n∧((numSeenOf x).length==(numTextOf x).length)=ae
set_option maxHeartbeats 4000000 in
theorem U3{x:PySem.Str}{u v:Tok}{n:Int}(h0:AQ x n):Gives (Builtin.«int.__new__» ⟨[.type "int",.str x u,.int 16 v],[]⟩) (.int n):=
 .of_wp λM A E s Q h=>by
  obtain⟨hp,g,d,tk,os⟩:=s
  have f1:=F.conv_sub_int
  have f2:=F.madeHere_int
  have f6:typeOf (.str x u)=pure (.type "str"):=rfl
  have hk:=O6.mk h0
  clear h0
  repeat (any_goals (first
   |assumption
   |((with_reducible show aA _ _ ((int_private%"intFromText") _ _ _) _ _ _);refine aeq hk.out.1 hk.out.2.1 hk.out.2.2 ?_)
   |wp_step))
  all_goals first|exact⟨_,rfl,h⟩|skip
theorem adP(a b:ao):checkTypeCall "int" ⟨[a,b],[]⟩=pure ():=by kernel_rfl
theorem YN(a b:ao):checkBuiltinCall "int.__new__" ⟨[.type "int",a,b],[]⟩=pure ():=by kernel_rfl
theorem PL(a b c:ao):argsOk "object.__init__" ⟨[a,b,c],[]⟩:=by unfold argsOk;kernel_rfl
section
variable{prog:Program}{w:World}{A:eK}{E:ao→ay→Prop}{s:ay}{Q:ao→ay→Prop}{x:PySem.Str}{t u:Tok}{n:Int}
theorem QV(h0:AQ x n)(h:Q (.int n s.toks) {s with toks:=s.toks+1}):aA (model prog w) A (call (.type "int") [.str x t,.int 16 u]) Q E s:=
 callType_new F.called_int F.newNe_int (adP _ _) (YN _ _) (λobj=>PL obj _ _) F.entry_int_new (U3 h0).meets (show(Made.int n).post _ s from⟨rfl,h⟩)
end
theorem VA:∀p∈yt,AQ ⟨p.1.toArray⟩ (p.2:Nat):=by
 intro p hp
 simp only[yt,List.mem_cons,List.not_mem_nil,or_false]at hp
 rcases hp with rfl|rfl|rfl|rfl|rfl|rfl|rfl|rfl<;>exact⟨by decide+kernel,by kernel_rfl,by decide+kernel⟩
def exc(k:Out→aq→au):V→aq→au:=λv st=>k (.exc v) st
noncomputable def oS:List Str→List V→Option (List (Str×V))
 | [],_=>bg
 |nm::r,vs=>cv r (tt (isNil vs) (ag [(nm,.none)])) λ_ _=>cv vs bg λv vs=>ob (oS r vs) λl=>ag ((nm,v)::l)
noncomputable def qq(e:aw):Option (aw×List aw×List Keyword×Pos):=j4 e.ctorIdx 16 λh=>we (motive_1:=λ_=>aw×List aw×List Keyword×Pos) e h λf args aE p=>(f,args,aE,p)
noncomputable def raiseOf(e c:Option aw):Option (Str×Pos×List aw×List Keyword×Pos):=oe c (λ_=>bg) (ob e λe=>ob (qq e) λq=>ob (jx q.1) λp=>tt (isNil q.2.2.1) (ag (p.1,p.2,q.2.1,q.2.2.1,q.2.2.2)))
structure Hand where
 id:Str
 nm:Str
 tid:Str
 e:aw
noncomputable def Bc(s:aG):Option (List aw×aw×Pos):=j4 s.ctorIdx 5 λh=>zy (motive_2:=λ_=>List aw×aw×Pos) s h λts e p=>(ts,e,p)
noncomputable def GR(s:aG):Option (Str×aw):=ob (Bc s) λq=>ob (one q.1) λt=>ob (nameOf t) λid=>ag (id,q.2.1)
noncomputable def handOf(hs:List ExceptHandler):Option Hand:=ob (one hs) λh=>match h with|.ExceptHandler t nm b _=>ob t λt=>ob (nameOf t) λid=>ob nm λnm=>ob (one b) λs=>ob (GR s) λp=>ag ⟨id,nm,p.1,p.2⟩
mutual
noncomputable def D0:aG→List aG
 |.While t b o p=>[.While t b o p]
 |.For t i b o p=>[.For t i b o p]
 |.If _ b o _=>cC b++cC o
 |.Try b _ _ _ _=>cC b
 |_=>[]
noncomputable def cC:List aG→List aG
 | []=>[]
 |s::r=>D0 s++cC r
end
noncomputable def tJ(o:Out)(next:au)(k:Out→au):au:=Out.casesOn o next (k .brk) (k .cont) (λv=>k (.ret v)) (λv=>k (.exc v))
noncomputable def qz(o:Out)(x:V→au)(k:Out→au):au:=Out.casesOn o (k .next) (k .brk) (k .cont) (λv=>k (.ret v)) x
section
variable(G:aX)
noncomputable def fQ(l:List V):V:=cv l .none λv _=>v
noncomputable def fb(l:List V):List V:=cv l [] λ_ r=>r
noncomputable def l8:List aw→List V→Bool
 | [],vs=>isNil vs
 |t::r,vs=>cY vs&&(oe (nameOf t) (λid=>isLocal (G.kind id)) af&&l8 r (fb vs))
noncomputable def wC:List aw→List V→aq→aq
 | [],_,st=>st
 |t::r,vs,st=>wC r (fb vs) (oe (nameOf t) (λid=>d7 id (fQ vs) st) st)
noncomputable def rJ(ts:List aw)(vs:List V)(st:aq):Option aq:=tt (l8 G ts vs) (ag (wC ts vs st))
noncomputable def tupK(ts:List aw)(vs:List V)(st:aq)(k:Out→aq→au):au:=Tt (l8 G ts vs) (k .next (wC ts vs st))
noncomputable def jC(a:Str)(v:FV)(st:aq)(k:aq→au):au:=Ob st.self λc=>Tt (mZ c.1 a G.attrs&&aJ c.2.length 100)
 (Oe (aV a c.2) (λy=>Oe y.o? (λ_=>fail) (Oe v.o? (λ_=>fail) (k (rI c.1 a v c.2 st)))) (k (rI c.1 a v c.2 st)))
noncomputable def selfOf(t:aw)(st:aq):Option Str:=ob (uF t) λp=>tt (gp G p.1 st) (ag p.2)
noncomputable def ni(a:Str)(kvs:List (Int×V))(st:aq):aq:=⟨st.loc,st.self.map λc=>(c.1,di a (.keys kvs) c.2),st.free⟩
noncomputable def aX.pe:aX:={G with fns:=G.calm,ctors:=[],loops:=[],g7:=[],calm:=[],quiet:=af,top:=af}
noncomputable def H0(C:aQ)(vs:List V)(k:V→au):au:=Ob (gQ C G.g7) λq=>Tt (d6 vs) (Ob (oS q.2 vs) λfs=>k (.obj C fs))
noncomputable def si(h:Hand)(y:V)(st:aq)(k:Out→aq→au):au:=Ob y.o? λc=>Tt (isLocal (G.kind h.nm)&&(isLocal (G.kind h.tid)&&(qW (G.kind h.id)&&(!(seq h.nm h.tid)&&(G.top&&fV h.e)))))
 (Ob (ob (aV h.id G.jq) refOf) λD=>Tt (aH c.1 D&&k9 c.1 G.g7) (bc G.pe 60 h.e (d7 h.nm (.obj c.1 c.2) ⟨st.loc,bg,st.free⟩) (λv st=>k .next ⟨iU h.nm (di h.tid (.v v) st.loc),st.self,st.free⟩) (λ_ _=>fail)))
mutual
noncomputable def xU:Nat→aG→aq→(Out→aq→au)→au
 |0,_,_,_=>fail
 |n+1,s,st,k=>match s with
  |.Return e _=>Oe e (λe=>bc G n e st (λv st=>k (.ret v) st) (exc k)) (k (.ret .none) st)
  |.Assign ts e _=>Ob (one ts) λt=>Oe (jx t) (λa=>Tt (isLocal (G.kind a.1)) (Oe (BB e) (λq=>Tt (qt q.sc q.id&&(ng q.iter&&(G.quiet&&(aH a.2.line q.pos.line&&(kL (λy _=>!(seq y a.1)) q.sc.names&& !(seq q.id oN))))))
   (bc G n q.iter st (λv st=>Ob (lQ q.elt q.id v) λys=>k .next (d7 a.1 (.lst ys) st)) (exc k)))
   (Tt (fV e) (Bs (sM e) (kU G n e st (λl st=>k .next (wz a.1 l st)) (exc k)) (bc G n e st (λv st=>k .next (d7 a.1 v st)) (exc k))))))
   (Oe (oH t) (λa=>Ob (nameOf a.1) λo=>Tt (fV e) (Bs (K3 e) (kU G n e st (λl st=>Tt (gp G o st&&st.free) (jC G a.2.1 (.own l) st λst=>k .next st)) (exc k))
    (Bs (noDict e) (Tt (gp G o st) (jC G a.2.1 (.keys []) st λst=>k .next st)) (bc G n e st (λv st=>Tt (gp G o st) (jC G a.2.1 (.v v) st λst=>k .next st)) (exc k)))))
   (Oe (Au t) (λa=>Tt (G.quiet&&(zo e&&fV e)) (bc G n e st (λv st=>Ob v.t? λvs=>tupK G a.1 vs st k) (exc k)))
   (Ob (Ar t) λa=>Tt (fV e) (bc G n e st (λv st=>Ob (keysAt G a.1 st) λq=>Ob (ob (qE G 20 a.2.1 st) V.i?) λj=>Tt (aJ q.2.length 1000) (k .next (ni q.1 (pR j v q.2) st))) (exc k)))))
  |.Delete ts _=>Ob (one ts) λt=>Ob (Ar t) λa=>Ob (keysAt G a.1 st) λq=>Ob (ob (qE G 20 a.2.1 st) V.i?) λj=>Ob (jv j q.2) λ_=>Tt (aJ q.2.length 1000) (k .next (ni q.1 (mM j q.2) st))
  |.AugAssign t op e _=>Tt (uH op) (Oe (jx t) (λa=>Ob (ob (q8 G a.1 st) FV.v?) λu=>bc G n e st (λb st=>Ob (kQ op u b) λv=>k .next (d7 a.1 v st)) (exc k))
   (Ob (oH t) λa=>Ob (nameOf a.1) λo=>Tt (gp G o st) (Ob st.self λc=>Ob (ob (wG G c.1 c.2 a.2.1) FV.v?) λu=>bc G n e st (λb st=>Ob (kQ op u b) λv=>jC G a.2.1 (.v v) st λst=>k .next st) (exc k))))
  |.Expr e _=>Tt (fV e) (bc G n e st (λ_ st=>k .next st) (exc k))
  |.If t b o _=>iV G n t st (λc st=>Br c (aN n b st k) (aN n o st k)) (exc k)
  |.While _ _ _ p=>Ob (gQ p.line G.loops) λF=>F st k
  |.For _ _ _ _ p=>Ob (gQ p.line G.loops) λF=>F st k
  |.Raise e c _=>Ob (raiseOf e c) λq=>Tt (G.quiet&&gU q.2.2.1 []) (bc G n (.Name q.1 q.2.1) st (λv st=>Ob (refOf v) λC=>Tt (k9 C G.g7) (dS G n q.2.2.1 st (λvs st=>H0 G C vs λy=>k (.exc y) st) (exc k))) (exc k))
  |.Try b hs o f _=>Tt (isNil o&&isNil f) (Oe (handOf hs) (λh=>aN n b st (λo st=>qz o (λy=>si G h y st k) (λo=>k o st))) (Tt (cY hs) (aN n b st (λo st=>qz o (λ_=>fail) (λo=>k o st)))))
  |.Pass _=>k .next st
  |.Break _=>k .brk st
  |.Continue _=>k .cont st
  |_=>fail
noncomputable def aN:Nat→List aG→aq→(Out→aq→au)→au
 |0,_,_,_=>fail
 |n+1,ss,st,k=>cv ss (k .next st) λs r=>xU n s st (λo st=>tJ o (aN n r st k) (λo=>k o st))
end
noncomputable def iH(a:au)(k:Out→aq→au):au:=λp r=>∃q,Gv a q∧k q.1 q.2 p r
theorem tr{a:au}{k:Out→aq→au}{r:R}{P:Prop}(h:Gv (iH a k) r)(K:∀o st,Gv a (o,st)→Gv (k o st) r→P):P:=by
 obtain⟨p,q,h1,h2⟩:=h
 exact K q.1 q.2 h1 ⟨p,h2⟩
noncomputable def yX(o:Out)(st:aq)(go:aq→au):au:=Out.casesOn o (go st) (leaf (.next,st)) (go st) (λv=>leaf (.ret v,st)) (λv=>leaf (.exc v,st))
noncomputable def vN(t:aq→au):Nat→aq→au
 |0,_=>fail
 |n+1,st=>iH (t st) λo st=>yX o st (vN t n)
noncomputable def gE(test:aw)(body:List aG)(st:aq):au:=
 iV G 60 test st (λb st=>Br b (aN G 60 body st (λo st=>leaf (o,st))) (leaf (.brk,st))) (λv st=>leaf (.exc v,st))
noncomputable def dk{α:Type}(t:α→aq→au):List α→aq→au
 | [],st=>leaf (.next,st)
 |v::l,st=>iH (t v st) λo st=>yX o st (dk t l)
noncomputable def Bl(target:aw)(v:V)(st:aq):Option aq:=oe (jx target) (λa=>tt (isLocal (G.kind a.1)) (ag (d7 a.1 v st))) (ob (Au target) λa=>ob v.t? λvs=>rJ G a.1 vs st)
noncomputable def ft(target:aw)(body:List aG)(v:V)(st:aq):au:=Ob (Bl G target v st) λst=>aN G 60 body st (λo st=>leaf (o,st))
noncomputable def forL(target iter:aw)(body:List aG):Lp:=λst k=>Tt (ng iter) (bc G 60 iter st (λv st=>Ob (DA v) λl=>iH (dk (ft G target body) l st) k) (exc k))
noncomputable def jb(n:Nat):List V:=(EL n).map λi=> .int (i:Nat)
noncomputable def forR(target:aw)(id:Str)(np:Pos)(arg:aw)(body:List aG):Lp:=λst k=>Tt (gU [arg] []) (bc G 60 (.Name id np) st (λv st=>Ob v.qm λb=>Tt (JY b) (dS G 60 [arg] st (λvs st=>Ob (one vs) λv=>Ob v.i? λi=>Tt (bO 0 i&&ltI i 1000) (iH (dk (ft G target body) (jb i.toNat) st) k)) (exc k))) (exc k))
noncomputable def lR:Nat→List Nat→List V
 |_,[]=>[]
 |i,c::r=> .tup [.int (i:Nat),.str [c]]::lR (i+1) r
noncomputable def IE(target:aw)(id:Str)(np:Pos)(arg:aw)(body:List aG):Lp:=λst k=>Tt (gU [arg] []) (bc G 60 (.Name id np) st (λv st=>Ob v.qm λb=>Tt (JS b) (dS G 60 [arg] st (λvs st=>Ob (one vs) λv=>Ob v.s? λt=>iH (dk (ft G target body) (lR 0 t) st) k) (exc k))) (exc k))
noncomputable def DB(body:List aG)(id:Str):List (Int×V)→aq→Option aq
 | [],st=>ag st
 |p::r,st=>ob (qS.z7 G 40 body (d7 id (.int p.1) st)) λst=>DB body id r st
noncomputable def IF(id:Str)(iter:aw)(body:List aG):Lp:=λst k=>Ob (keysAt G iter st) λq=>Tt (isLocal (G.kind id)) (Ob (DB G body id q.2 st) λst' =>k .next st')
noncomputable def bo(t:aq→au)(st:aq):au:=λ_ r=>∃n,Gv (vN t n st) r
noncomputable def Az(test:aw)(body:List aG):Lp:=λst k=>iH (bo (gE G test body) st) k
end
structure bU where
 XC:aQ→Act→(Str→Option ao)→Self→Cells→Cells→V→ao→ay→Prop
def dW(W:Wd)(fz:Cells)(x:aQ):List (Str×V)→List (Str×ao)→Prop
 | [],bs=>bs=[]
 |(nm,y)::l,bs=>dH (λp=>p.1=nm∧VR W fz x y p.2) (dW W fz x l) bs
theorem dW.up{W:Wd}{fz bz:Cells}{x:aQ}(h:Sub fz bz):∀{l:List (Str×V)}{bs:List (Str×ao)},dW W fz x l bs→dW W bz x l bs
 | [],_,r=>r
 |(_,_)::_,_,r=>dH.up (λ_ k=>⟨k.1,k.2.up h⟩) (λ_=>dW.up h) r
section
variable(W:Wd)(X:bU)
def kI(A:eK)(D:Nat):Prop:=A.depth+D<1000∧A.units+8*D<9800
inductive COk(φ:iP)(x:aQ)(c:Act)(m:Str→Option ao)(rest fz:Cells)(s:ay)(y:V)(dC:Self)(s' :ay):Except ao Flow→Prop
 |mk (v:ao) (bz:Cells) (f:Sub fz bz) (h:VR W bz x y v) (C:CR W φ x c m dC rest bz s'.heap) (u:cU s s'):COk φ x c m rest fz s y dC s' (.ok (.ret v))
inductive xf(x:aQ)(c:Act)(m:Str→Option ao)(rest fz:Cells)(s:ay)(y:V)(dC:Self)(s' :ay):Except ao Flow→Prop
 |mk (ev:ao) (bz:Cells) (f:Sub fz bz) (h:X.XC x c m dC rest bz y ev s') (u:cU s s'):xf x c m rest fz s y dC s' (.error ev)
def Gg(φ:iP)(x:aQ)(c:Act)(m:Str→Option ao)(rest fz:Cells)(s:ay)(r:Res)(dC:Self)(res:Except ao Flow)(s' :ay):Prop:=
 Res.casesOn r (λy=>COk W φ x c m rest fz s y dC s' res) (λy=>xf X x c m rest fz s y dC s' res)
def om(D:Nat)(q:Bool)(f:aQ)(args:List V)(aE:List (Str×V))(self:Self)(r:Res)(dC:Self):Prop:=
 ∀φ x c A m rest fz s vals kvs,il W c A→(q=ae→A.handled=bg)→kI A D→CR W φ x c m self rest fz s.heap→aS W fz x args vals→dW W fz x aE kvs→
  codeAny W.M A (.call (.ref f) ⟨vals,kvs⟩) (Gg W X φ x c m rest fz s r dC) s
inductive Gn(D:Nat)(q:Bool)(f:aQ)(args:List V)(aE:List (Str×V))(self:Self)(k:Res→Self→au)(r:R):Prop
 |mk (r' :Res) (dC:Self) (h:om W X D q f args aE self r' dC) (k:Gv (k r' dC) r)
def bH(D:Nat)(q:Bool)(f:aQ)(F:Fn):Prop:=∀args aE self k r,Gv (F args aE self k) r→Gn W X D q f args aE self k r
def qd(nm:Str)(y:V):Prop:=(∃v,nsIn W.K mainGlobals nm=ag (ag v)∧∀x,VR W [] x y v)∨
 (∃v,nsIn W.K mainGlobals nm=ag bg∧bootBuiltins nm=ag v∧nm≠"__name__"∧∀x,VR W [] x y v)
noncomputable def By(K:jX)(C:aQ)(a:Str)(v:ao):Bool:=plainGet K C a&&(hasDictIn K C&&((findIn K (.ref C) a==ag (ag v))&&((specialIn K v "__get__"==ag bg)&&(handedIn v&& !(copiedNames.contains a)))))
def xg(C:aQ)(a:Str)(y:V):Prop:=∃v,By W.K C a v=ae∧∀x,VR W [] x y v
noncomputable def Dv(K:jX)(C D:aQ)(b:Bool):Bool:=br b (isIn K (.ref C) D) (kin_not K C D&&(plainGet K C "__class__"&&(hasDictIn K C&&((findIn K (.ref C) "__class__"==ag (ag (.builtin "object.__class__")))&&((specialIn K (.builtin "object.__class__") "__get__"==ag (ag (.builtin "getset_descriptor.__get__")))&&((takesIn K (.builtin "object.__class__")==ag ae)&&(mroIn K C (.type "object")==ag ae)))))))
noncomputable def attrOk(K:jX)(C:aQ)(a:Str):Bool:=plainGet K C a&&(hasDictIn K C&&((oe (findIn K (.ref C) a) (noGet K) af)&&
 ((findIn K (.ref C) "__setattr__"==ag (ag (.builtin "object.__setattr__")))&&(plainOver K C&&(takerIn K C a==ag bg)))))
noncomputable def kP(K:jX)(C:aQ)(a:Str):Bool:=attrOk K C a||(BV K C a&&qB K C a)
noncomputable def zi(K:jX)(C:aQ)(a:Str)(f:aQ):Bool:=plainGet K C a&&((findIn K (.ref C) a==ag (ag (.ref f)))&&(isFn K (.ref f)&&keepIn K (.ref f)))
noncomputable def rh(K:jX)(C fI:aQ):Bool:=makesIn K C&&((findIn K (.ref C) "__init__"==ag (ag (.ref fI)))&&(isFn K (.ref fI)&&keepIn K (.ref C)))
inductive AG(C:aQ)(x:aQ)(c:Act)(m:Str→Option ao)(self:Self)(rest fz:Cells)(s:ay)(fs:List (Str×V))(s' :ay):ao→Prop
 |mk (e:aQ) (dd:Option aQ) (sl:Array (Option ao)) (t:aQ) (bz:Cells) (k:W.K.In s'.heap) (g:s'.heap.get? e=ag ⟨.ref C,dd,.fields #[.ref t,.none,.none,.none,.bool af,.none],sl⟩) (f:Sub fz bz) (h:X.XC x c m self rest bz (.obj C fs) (.ref e) s') (u:cU s s'):AG C x c m self rest fz s fs s' (.ref e)
def qb(D:Nat)(C fI:aQ)(ns:List Str):Prop:=pS W.K C fI=ae∧∀φ x c A m self rest fz s ys vals fs,il W c A→A.handled=bg→kI A D→CR W φ x c m self rest fz s.heap→aS W fz x ys vals→d6 ys=ae→oS ns ys=ag fs→
 aA W.M A (call (.ref C) vals) (λv s' =>AG W X C x c m self rest fz s fs s' v) (λ_ _=>False) s
structure cb(G:aX):Prop where
 keeps:∀q∈G.fns,keepIn W.K (.ref q.1)=ae
 ctors:∀q∈G.ctors,rh W.K q.1 q.2.1=ae∧0<G.dep∧bH W X (G.dep -1) G.quiet q.2.1 q.2.2
 jq:∀q∈G.jq,qd W q.1 q.2
 attrs:∀q∈G.attrs,kP W.K q.1 q.2=ae
 meths:∀q∈G.meths,zi W.K q.1 q.2.1 q.2.2=ae
 fns:∀q∈G.fns,bH W X G.dep G.quiet q.1 q.2
 jI:∀q∈G.jI,xg W q.1 q.2.1 q.2.2
 insts:∀q∈G.insts,Dv W.K q.1 q.2.1 q.2.2=ae
 calm:∀q∈G.calm,keepIn W.K (.ref q.1)=ae∧bH W X G.dep af q.1 q.2
 g7:∀q∈G.g7,keepIn W.K (.ref q.1)=ae∧qb W X G.dep q.1 q.2.1 q.2.2
structure aW(G:aX) where
 x:aQ
 c:Act
 A:eK
 hA:il W c A
 quiet:G.quiet=ae→A.handled=bg
 room:kI A G.dep
 top:G.top=ae→c.base=c.h₀
 kind:∀y,G.kind y=c.env.kindOf y
 hd:c.env.kindOf "__debug__"=bg
end
noncomputable abbrev aW.env{W:Wd}{G:aX}(κ:aW W G):Env:=κ.c.env
abbrev Tr(α:Type):=(α→ay→Prop)→(ao→ay→Prop)→ay→Prop
section
variable(W:Wd)(X:bU){G:aX}
abbrev Rl(κ:aW W G)(st:aq)(a:Cf):Prop:=Rel W κ.x κ.c st a
inductive Xv(x:aQ)(c:Act)(a:Cf)(y:V)(st' :aq)(ev:ao)(s' :ay):Prop
 |mk (bz:Cells) (m:Str→Option ao) (c1:Cells) (l:Str→aQ) (f:Sub a.fz bz) (h:X.XC x c m st'.self (c1++a.rest) bz y ev s') (L:AR W bz x c1 l m st'.loc) (u:cU a.s s')
def uq(κ:aW W G)(k:Bool)(Bf:Cf){α:Type}(T:Tr α)(st:aq)(P:Cf→α→Prop):Prop:=
 ∀a Q E,Le ae Bf a→Rl W κ st a→(∀d v,Le k a d→P d v→Q v d.s)→T Q E a.s
def AN(κ:aW W G)(Bf:Cf){α:Type}(T:Tr α)(st:aq)(y:V)(st' :aq):Prop:=
 ∀a Q E,Le ae Bf a→Rl W κ st a→(∀ev s',Xv W X κ.x κ.c a y st' ev s' →E ev s')→T Q E a.s
end
theorem Xv.up{W:Wd}{X:bU}{k:Bool}{a b:Cf}{st' :aq}{x:aQ}{c:Act}{y:V}{ev:ao}{s' :ay}(le:Le k a b):Xv W X x c b y st' ev s' →Xv W X x c a y st' ev s'
 |.mk bz m c1 l f h L u=> .mk bz m c1 l (le.fz.trans f) (le.rest▸h) L (le.u.trans u)
structure cD(W:Wd)(G:aX) where
 ι:Type
 I:aW W G→Cf→ι→Prop
 up:∀κ a b i,Le ae a b→I κ a i→I κ b i
structure Av(W:Wd)(G:aX)(β α:Type) where
 A:aW W G→β→Cf→α→Prop
 up:∀κ y a b v,Le ae a b→A κ y a v→A κ y b v
section
variable{W:Wd}{G:aX}
noncomputable def cD.nil:cD W G:=⟨Unit,λ_ _ _=>True,λ_ _ _ _ _ h=>h⟩
noncomputable def cD.and{β α:Type}(J:cD W G)(A:Av W G β α)(y:β):cD W G:=⟨J.ι×α,λκ a p=>J.I κ a p.1∧A.A κ y a p.2,λκ a b i l h=>⟨J.up κ a b _ l h.1,A.up κ y a b _ l h.2⟩⟩
noncomputable def vA:Av W G V ao:=⟨λκ y a v=>VR W a.fz κ.x y v,λ_ _ _ _ _ l h=>h.up l.fz⟩
noncomputable def eA(α:Type):Av W G α α:=⟨λ_ y _ v=>v=y,λ_ _ _ _ _ _ h=>h⟩
noncomputable def sA:Av W G (List V) (List ao):=⟨λκ y a v=>aS W a.fz κ.x y v,λ_ _ _ _ _ l h=>h.up l.fz⟩
abbrev Po(W:Wd)(G:aX)(β α:Type):=aW W G→β→aq→Cf→α→Prop
def Av.p{β α:Type}(A:Av W G β α):Po W G β α:=λκ y st' d v=>A.A κ y d v∧Rl W κ st' d
end
section
variable{W:Wd}(X:bU){G:aX}
inductive Rz(J:cD W G)(b:Bool){α β:Type}(T:(κ:aW W G)→J.ι→Tr α)(st:aq)(A:Po W G β α)(k:β→aq→au)(x:V→aq→au)(r:R):Prop
 |ok (y:β) (st' :aq) (H:∀κ a i,J.I κ a i→uq W κ b a (T κ i) st (A κ y st')) (h:Gv (k y st') r)
 |ex (y:V) (st' :aq) (H:∀κ a i,J.I κ a i→AN W X κ a (T κ i) st y st') (h:Gv (x y st') r)
end
section
variable{W:Wd}{X:bU}{G:aX}{J:cD W G}{b:Bool}{α β γ δ:Type}{T T' :(κ:aW W G)→J.ι→Tr α}{F:(κ:aW W G)→J.ι→α→Tr γ}{st:aq}{A:Av W G β α}{B:Po W G δ γ}{C:Po W G β α}{k₁:β→aq→au}{k:δ→aq→au}{x:V→aq→au}{r:R}
theorem Rz.bind(H:Rz X J ae T st A.p k₁ x r)(K:∀y bj,Gv (k₁ y bj) r→Rz X (J.and A y) b (λκ p=>F κ p.1 p.2) bj B k x r):Rz X J b (λκ i Q E s=>T κ i (λv s' =>F κ i v Q E s') E s) st B k x r:=by
 rcases H with⟨y,bj,H,h⟩|⟨y,st',H,h⟩
 ·rcases K y bj h with⟨z,st',H',h'⟩|⟨z,st',H',h'⟩
  ·exact .ok z st' (λκ a i hi c Q E lc R q=>H κ a i hi c _ E lc R λd v ld hv=>H' κ d (i,v) ⟨J.up κ a d i (lc.trans ld) hi,hv.1⟩ d Q E (Le.refl d) hv.2 λd' v' l' =>q d' v' (ld.weak.trans l')) h'
  ·exact .ex z st' (λκ a i hi c Q E lc R q=>H κ a i hi c _ E lc R λd v ld hv=>H' κ d (i,v) ⟨J.up κ a d i (lc.trans ld) hi,hv.1⟩ d Q E (Le.refl d) hv.2 λev s' h=>q ev s' (h.up ld)) h'
 ·exact .ex y st' (λκ a i hi c Q E lc R q=>H κ a i hi c _ E lc R q) h
theorem Rz.as(L:∀κ i Q E s,T κ i Q E s→T' κ i Q E s)(H:Rz X J b T st C k₁ x r):Rz X J b T' st C k₁ x r:=by
 rcases H with⟨y,st',H,h⟩|⟨y,st',H,h⟩
 ·exact .ok y st' (λκ a i hi c Q E lc R q=>L κ i _ _ _ (H κ a i hi c Q E lc R q)) h
 ·exact .ex y st' (λκ a i hi c Q E lc R q=>L κ i _ _ _ (H κ a i hi c Q E lc R q)) h
theorem Rz.leaf(y:β)(st' :aq)(h:Gv (k₁ y st') r)(H:∀κ a i Q E,J.I κ a i→Rl W κ st a→(∀d v,Le b a d→C κ y st' d v→Q v d.s)→T κ i Q E a.s):Rz X J b T st C k₁ x r:=
 .ok y st' (λκ a i hi c Q E lc R q=>H κ c i Q E (J.up κ a c i lc hi) R q) h
theorem Rz.turn{k₂:δ→aq→au}{B:Po W G δ α}(e:β→δ)(hA:∀κ y st a v,C κ y st a v→B κ (e y) st a v)(hk:∀y st,Gv (k₁ y st) r→Gv (k₂ (e y) st) r)(H:Rz X J b T st C k₁ x r):Rz X J b T st B k₂ x r:=by
 rcases H with⟨y,st',H,h⟩|⟨y,st',H,h⟩
 ·exact .ok (e y) st' (λκ a i hi c Q E lc R q=>H κ a i hi c Q E lc R λd v l hv=>q d v l (hA κ y st' d v hv)) (hk y st' h)
 ·exact .ex y st' H h
end
theorem lx{v:V}(h:oe v.n? id af=ae):v=.none:=by cases v<;>first|rfl|exact nt h
inductive jF(n:Nat):V→V→Bool→Prop
 |ii (i j:Int):jF n (.int i) (.int j) (aI i j)
 |ss (i j:List Nat):jF n (.str i) (.str j) (aB i j)
 |bb (i j:Bool):jF n (.bool i) (.bool j) (i==j)
 |tt (l r:List V) (c:Bool) (h:iA (cN n) l r=ag c):jF n (.tup l) (.tup r) c
 |ll (l r:List V) (c:Bool) (h:iA (cN n) l r=ag c):jF n (.lst l) (.lst r) c
 |nn:jF n .none .none ae
 |iN (i:Int):jF n (.int i) .none af
 |sN (i:List Nat):jF n (.str i) .none af
 |tN (i:List V):jF n (.tup i) .none af
 |nI (i:Int):jF n .none (.int i) af
 |nS (i:List Nat):jF n .none (.str i) af
 |nT (i:List V):jF n .none (.tup i) af
theorem HQ{n:Nat}{a b:V}{c:Bool}(h:cN (n+1) a b=ag c):jF n a b c:=by
 refine dn h (λi hi h=>?_) λ_ h=>?_
 ·rw[iE hi]
  refine dn h (λj hj h=>?_) λ_ h=>bK h λhn h=>?_
  ·rw[iE hj,so h];exact .ii i j
  ·rw[lx hn,so h];exact .iN i
 refine dn h (λi hi h=>?_) λ_ h=>?_
 ·rw[jc hi]
  refine dn h (λj hj h=>?_) λ_ h=>bK h λhn h=>?_
  ·rw[jc hj,so h];exact .ss i j
  ·rw[lx hn,so h];exact .sN i
 refine dn h (λi hi h=>?_) λ_ h=>?_
 ·rw[wX hi]
  refine dn h (λj hj h=>?_) λ_ h=>bK h λhn h=>?_
  ·rw[wX hj];exact .tt i j c h
  ·rw[lx hn,so h];exact .tN i
 refine dn h (λi hi h=>aD h λj hj h=>?_) λ_ h=>?_
 ·rw[DL hi,DL hj];exact .ll i j c h
 refine dn h (λi hi h=>aD h λj hj h=>?_) λ_ h=>bK h λha h=>?_
 ·rw[j9 hi,j9 hj,so h];exact .bb i j
 rw[lx ha]
 refine gM h (λhn h=>?_) λ_ h=>dn h (λj hj h=>?_) λ_ h=>dn h (λj hj h=>?_) λ_ h=>aD h λj hj h=>?_
 ·rw[lx hn,so h];exact .nn
 ·rw[iE hj,so h];exact .nI j
 ·rw[jc hj,so h];exact .nS j
 ·rw[wX hj,so h];exact .nT j
section
variable{W:Wd}{fz:Cells}{A:eK}{s:ay}{x:aQ}
abbrev dR(W:Wd)(fz:Cells)(s:ay):Prop:=∀a o,W.At fz a o→s.heap.get? a=ag o
theorem rT{a:aQ}{vs:Array ao}{n:Nat}(h:s.heap.get? a=ag (fJ vs n)):s.heap.IsTuple a vs:=⟨_,h,rfl,n,rfl⟩
theorem jR{a:aQ}{vs:Array ao}{n:Nat}(h:s.heap.get? a=ag (listOf vs n)):s.heap.IsList a vs:=⟨_,h,rfl,n,rfl⟩
theorem HV{f:V→V→Option Bool}(hf:∀{a b v c},VR W fz x a v→VR W fz x b v→f a b=ag c→c=ae):∀{l r:List V}{vs:List ao}{c:Bool},aS W fz x l vs→aS W fz x r vs→iA f l r=ag c→c=ae:=λ{l}=>by
 induction l with
 |nil=>
  intro r vs c h1 h2 h
  cases r with
  |nil=>exact so h
  |cons y r=>rw[(h1:vs=[])]at h2;cases h2
 |cons a l ih=>
  intro r vs c h1 h2 h
  cases r with
  |nil=>rw[(h2:vs=[])]at h1;cases h1
  |cons b r=>
   obtain⟨v,q,hv,hq⟩:=h1
   obtain⟨_,_,la,V0⟩:=h2
   refine aD h λc1 e1 h=>aD h λd1 e2 h=>?_
   rw[so h,hf hv la e1,ih hq V0 e2];rfl
theorem MO{mk:Array ao→Nat→km}(hm:∀{a b n m},mk a n=mk b m→a=b)(hg:dR W fz s){r r' :List ao→Prop}{v:ao}:cf W fz mk r v→cf W fz mk r' v→∃vs,r vs∧r' vs
 |.mk a vs n h k,.mk _ us m h' k' =>⟨vs.toList,k,by have:=(hg _ _ h).symm.trans (hg _ _ h');rw[hm (fX this)];exact k'⟩
theorem NM{a b:Array ao}{n m:Nat}(h:fJ a n=fJ b m):a=b:=by cases h;rfl
theorem X9{a b:Array ao}{n m:Nat}(h:cM a n=cM b m):a=b:=by cases h;rfl
theorem WJ{i j:Int}{v:ao}(h:bL i v)(k:bL j v):i=j:=by cases h;cases k;rfl
theorem str_inj{i j:List Nat}{v:ao}(h:cj i v)(k:cj j v):i=j:=by
 cases h
 generalize hv:rp _ _=v at k
 cases k
 injection hv with e
 injection e with e
 simpa using e
theorem QC{i j:Bool}{v:ao}(h:v=.bool i)(k:v=.bool j):i=j:=by rw[h]at k;cases k;rfl
theorem tE{v:ao}(h:v=.none):¬(∃i,bL i v)∧¬(∃i,cj i v)∧∀r,¬cf W fz fJ r v:=by
 rw[h]
 exact⟨(λ⟨_,h⟩=>nomatch h),(λ⟨_,h⟩=>nomatch h),(λ_ h=>nomatch h)⟩
theorem Sj(hg:dR W fz s)(n:Nat):∀{a b:V}{v:ao}{c:Bool},VR W fz x a v→VR W fz x b v→cN n a b=ag c→c=ae:=by
 induction n with
 |zero=>intro a b v c _ _ h;exact no h
 |succ n ih=>
  intro a b v c ha hb h
  have e:=HQ h
  clear h
  revert ha hb
  induction e with
  |ii i j=>intro ha hb;exact oQ.mpr (WJ ha hb)
  |ss i j=>intro ha hb;exact yT.mpr (str_inj ha hb)
  |bb i j=>intro ha hb;rw[QC ha hb];exact beq_self_eq_true j
  |tt l r c h=>intro ha hb;obtain⟨vs,h1,h2⟩:=MO NM hg ha hb;exact HV ih h1 h2 h
  |ll l r c h=>intro ha hb;obtain⟨vs,h1,h2⟩:=MO X9 hg ha hb;exact HV ih h1 h2 h
  |nn=>intro ha hb;rfl
  |iN i=>intro ha hb;exact absurd ⟨i,ha⟩ (tE (W:=W) (fz:=fz) hb).1
  |sN i=>intro ha hb;exact absurd ⟨i,ha⟩ (tE (W:=W) (fz:=fz) hb).2.1
  |tN i=>intro ha hb;exact absurd ha ((tE hb).2.2 _)
  |nI i=>intro ha hb;exact absurd ⟨i,hb⟩ (tE (W:=W) (fz:=fz) ha).1
  |nS i=>intro ha hb;exact absurd ⟨i,hb⟩ (tE (W:=W) (fz:=fz) ha).2.1
  |nT i=>intro ha hb;exact absurd hb ((tE ha).2.2 _)
theorem str_beq(a b:List Nat):(ck a.toArray==ck b.toArray)=aB a b:=by
 cases q:aB a b with
 |true=>rw[pq q];exact beq_self_eq_true _
 |false=>
  refine beq_false_of_ne λe=>?_
  injection e with e
  rw[yT.mpr (by simpa using e)]at q;cases q
theorem aey(a b:Int):(a==b)=aI a b:=rfl
theorem HU{f:V→V→Option Bool}:∀{l r:List V}{c:Bool},iA f l r=ag c→∃e:Nat→Bool,(∀j y z,l[j]?=ag y→r[j]?=ag z→f y z=ag (e j))∧c=((EL (min l.length r.length)).all e&&l.length==r.length):=λ{l}=>by
 induction l with
 |nil=>
  intro r c h
  refine⟨λ_=>ae,(λj y z e=>by cases e),?_⟩
  rw[so h]
  cases r<;>simp[isNil]
 |cons a l ih=>
  intro r c h
  cases r with
  |nil=>exact⟨λ_=>ae,(λj y z _ e=>by cases e),by rw[so h];simp⟩
  |cons b r=>
   refine aD h λc1 e1 h=>aD h λd1 e2 h=>?_
   obtain⟨e,he,hd⟩:=ih e2
   refine⟨λj=>Nat.casesOn j c1 e,λj y z hy hz=>?_,?_⟩
   ·cases j with
    |zero=>cases hy;cases hz;exact e1
    |succ j=>exact he j y z hy hz
   ·rw[so h,hd,lE,lE,Nat.add_min_add_right,List.range_succ_eq_map,List.all_cons,List.all_map,Bool.and_assoc]
    have:((l.length+1==r.length+1):Bool)=(l.length==r.length):=Bool.eq_iff_iff.mpr (by rw[beq_iff_eq,beq_iff_eq];exact Nat.succ_inj)
    rw[this]
    rfl
theorem aS.at{l:List V}{vs:Array ao}(h:aS W fz x l vs.toList){j:Nat}(hj:j<vs.size):∃y,l[j]?=ag y∧VR W fz x y vs[j]:=by
 have sT:j<l.length:=h.size▸hj
 obtain⟨v,e,hv⟩:=h.get (lH sT)
 refine⟨l[j],lH sT,?_⟩
 rw[zM,Array.getElem?_eq_getElem hj]at e
 rw[fX e];exact hv
theorem WA{A:eK}{n:Nat}(h:A.units+(n+1)<cLine):A.in1.units+n<cLine:=by show A.units+1+n<cLine;omega
theorem u0{A:eK}{n:Nat}(h:A.units+n<cLine):A.units<cLine:=lF (dh _ _) h
abbrev r6(n:Nat)(W:Wd)(fz:Cells)(s:ay)(x:aQ):Prop:=∀{A:eK}{a b:V}{va vb:ao}{c:Bool},A.units+n<cLine→VR W fz x a va→VR W fz x b vb→cN n a b=ag c→EqAt A s va vb c∧RcAt A s va vb c
theorem HY{n:Nat}(ih:r6 n W fz s x){A:eK}(hu:A.units+(n+1)<cLine){l r:List V}{vs us:Array ao}{e:Nat→Bool}(hv:aS W fz x l vs.toList)(hw:aS W fz x r us.toList)(he:∀j y z,l[j]?=ag y→r[j]?=ag z→cN n y z=ag (e j))(j:Nat)(h1:j<vs.size)(h2:j<us.size):EqAt A.in1 s vs[j] us[j] (e j):=by
 obtain⟨y,hy,ry⟩:=hv.at h1
 obtain⟨z,hz,rz⟩:=hw.at h2
 exact(ih (WA hu) ry rz (he j y z hy hz)).1
theorem HW(hg:dR W fz s){n:Nat}{a b:V}{a1 a2:aQ}{c:Bool}(ha:VR W fz x a (.ref a1))(hb:VR W fz x b (.ref a2))(h:cN n a b=ag c)(rc:RcAt A s (.ref a1) (.ref a2) c):EqAt A s (.ref a1) (.ref a2) c∧RcAt A s (.ref a1) (.ref a2) c:=by
 refine⟨?_,rc⟩
 by_cases q:a1=a2
 ·rw[q]at ha⊢
  rw[Sj hg _ ha hb h]
  exact .same _
 ·exact .of_refs q rc
theorem Sn(hg:dR W fz s){n:Nat}(ih:r6 n W fz s x)(hu:A.units+(n+1)<cLine){l r:List V}{c:Bool}(hc:iA (cN n) l r=ag c):∀{va vb:ao},cf W fz fJ (aS W fz x l) va→cf W fz fJ (aS W fz x r) vb→RcAt A s va vb c
 |_,_,.mk _ vs _ hA hv,.mk _ us _ hB hw=>by
  obtain⟨e,he,ec⟩:=HU hc
  rw[ec,←hv.size,←hw.size]
  exact RcAt.tuples (rT (hg _ _ hA)) (rT (hg _ _ hB)) (u0 hu) (HY ih hu hv hw he)
theorem Sl(hg:dR W fz s){n:Nat}(ih:r6 n W fz s x)(hu:A.units+(n+1)<cLine){l r:List V}{c:Bool}(hc:iA (cN n) l r=ag c):∀{va vb:ao},cf W fz cM (aS W fz x l) va→cf W fz cM (aS W fz x r) vb→RcAt A s va vb c
 |_,_,.mk _ vs _ hA hv,.mk _ us _ hB hw=>by
  obtain⟨e,he,ec⟩:=HU hc
  rw[ec,←hv.size,←hw.size]
  by_cases q:vs.size=us.size
  ·rw[←q,LK,beq_self_eq_true,Bool.and_true]
   exact RcAt.lists (jR (hg _ _ hA)) (jR (hg _ _ hB)) q (u0 hu) (HY ih hu hv hw he)
  ·rw[beq_false_of_ne q,zC]
   exact RcAt.lists_lengths (jR (hg _ _ hA)) (jR (hg _ _ hB)) (by simp;exact q) (u0 hu)
theorem Ad{mk:Array ao→Nat→km}{r:List ao→Prop}:∀{v:ao},cf W fz mk r v→∃a,v=.ref a
 |_,.mk a _ _ _ _=>⟨a,rfl⟩
theorem K5(hg:dR W fz s)(hu:A.units<cLine){l:List V}:∀{v:ao},cf W fz fJ (aS W fz x l) v→(EqAt A s .none v af∧RcAt A s .none v af)∧(EqAt A s v .none af∧RcAt A s v .none af)
 |_,.mk _ _ _ hA _=>have h:=rT (hg _ _ hA);⟨⟨.none_tuple h hu,.none_tuple h hu⟩,.tuple_none h hu,.tuple_none h hu⟩
theorem none_str{i:List Nat}:∀{v:ao},cj i v→(EqAt A s .none v af∧RcAt A s .none v af)∧(EqAt A s v .none af∧RcAt A s v .none af)
 |_,.mk _ _=>⟨⟨.none_str _ _,.none_str _ _⟩,.str_none _ _,.str_none _ _⟩
theorem none_int{i:Int}:∀{v:ao},bL i v→(EqAt A s .none v af∧RcAt A s .none v af)∧(EqAt A s v .none af∧RcAt A s v .none af)
 |_,.mk _=>⟨⟨.none_int _ _,.none_int _ _⟩,.int_none _ _,.int_none _ _⟩
theorem WK{i j:Int}:∀{v u:ao},bL i v→bL j u→EqAt A s v u (aI i j)∧RcAt A s v u (aI i j)
 |_,_,.mk _,.mk _=>⟨.int_int _ _ _ _,.int_int _ _ _ _⟩
theorem ada{i j:List Nat}:∀{v u:ao},cj i v→cj j u→EqAt A s v u (aB i j)∧RcAt A s v u (aB i j)
 |_,_,.mk _ _,.mk _ _=>str_beq i j▸⟨.str_str _ _ _ _,.str_str _ _ _ _⟩
theorem Sm(hg:dR W fz s){n:Nat}(ih:r6 n W fz s x)(hu:A.units+(n+1)<cLine){l r:List V}{c:Bool}(hc:iA (cN n) l r=ag c){va vb:ao}(ha:cf W fz fJ (aS W fz x l) va)(hb:cf W fz fJ (aS W fz x r) vb):EqAt A s va vb c∧RcAt A s va vb c:=by
 have rc:=Sn hg ih hu hc ha hb
 obtain⟨a1,e1⟩:=Ad ha
 obtain⟨a2,e2⟩:=Ad hb
 rw[e1]at ha rc⊢
 rw[e2]at hb rc⊢
 exact HW (n:=n+1) (a:=.tup l) (b:=.tup r) hg ha hb hc rc
theorem Sk(hg:dR W fz s){n:Nat}(ih:r6 n W fz s x)(hu:A.units+(n+1)<cLine){l r:List V}{c:Bool}(hc:iA (cN n) l r=ag c){va vb:ao}(ha:cf W fz cM (aS W fz x l) va)(hb:cf W fz cM (aS W fz x r) vb):EqAt A s va vb c∧RcAt A s va vb c:=by
 have rc:=Sl hg ih hu hc ha hb
 obtain⟨a1,e1⟩:=Ad ha
 obtain⟨a2,e2⟩:=Ad hb
 rw[e1]at ha rc⊢
 rw[e2]at hb rc⊢
 exact HW (n:=n+1) (a:=.lst l) (b:=.lst r) hg ha hb hc rc
theorem QB{i j:Bool}{v u:ao}(h:v=.bool i)(k:u=.bool j):EqAt A s v u (i==j)∧RcAt A s v u (i==j):=h▸k▸⟨.bool_bool _ _,.bool_bool _ _⟩
theorem Y4{v u:ao}(h:v=.none)(k:u=.none):EqAt A s v u ae∧RcAt A s v u ae:=by rw[h,k];exact⟨.same _,.none_none⟩
theorem Si(hg:dR W fz s)(n:Nat):r6 n W fz s x:=by
 induction n with
 |zero=>intro A a b va vb c _ _ _ h;exact no h
 |succ n ih=>
  intro A a b va vb c hu ha hb h
  have e:=HQ h
  clear h
  revert ha hb
  induction e with
  |ii i j=>intro ha hb;exact WK ha hb
  |ss i j=>intro ha hb;exact ada ha hb
  |bb i j=>intro ha hb;exact QB ha hb
  |nn=>intro ha hb;exact Y4 ha hb
  |iN i=>intro ha hb;exact(hb:vb=_)▸(none_int ha).2
  |sN i=>intro ha hb;exact(hb:vb=_)▸(none_str ha).2
  |tN i=>intro ha hb;exact(hb:vb=_)▸(K5 hg (u0 hu) ha).2
  |nI i=>intro ha hb;exact(ha:va=_)▸(none_int hb).1
  |nS i=>intro ha hb;exact(ha:va=_)▸(none_str hb).1
  |nT i=>intro ha hb;exact(ha:va=_)▸(K5 hg (u0 hu) hb).1
  |tt l r c hc=>intro ha hb;exact Sm hg ih hu hc ha hb
  |ll l r c hc=>intro ha hb;exact Sk hg ih hu hc ha hb
end
section
variable{prog:Program}{w:World}{A:eK}{E:ao→ay→Prop}{s:ay}
theorem Fc{b:Nat}{x:Str}{t:Tok}{Q:ao→ay→Prop}(gP:(reprText x).length≤sizeLine)(h:Q (.str (reprText x) s.toks) {s with toks:=s.toks+1}):aA (model prog w) A (pyReprObjUnder b (.str x t)) Q E s:=by
 have hT:s.TypeIs (.str x t) "str":=typeIs_str s x t
 unfold pyReprObjUnder pyReprObjBy
 refine bq (wpAny_cRoomFor_byValue rfl ?_)
 refine bq (wpAny_specialOf (name:=ai "__repr__") hT F.slot_str_repr.lookup ?_)
 refine bq (wpAny_callSpecialIfBoundBy?_slotG (name:=ai "__repr__") hT F.slot_str_repr.toG ?_)
 show aA _ _ (call (.builtin "str.__repr__") [.str x t]) _ _ _
 refine call_gives F.slot_str_repr hT F.entry_str_repr (F.args_str_repr_1 _) (gives_str_repr x t) ⟨gP,?_⟩
 exact bq (wpAny_isInstance (T:="str") (b:=ae) rfl isSubtype_str_str (dv h))
end
def wK(c:Nat):Prop:=(reprText ⟨#[c]⟩).length≤100
theorem TH{c:Nat}(hc:wK c){t u:Tok}:Meets (Builtin.«str.__mod__» ⟨[.str ⟨#[102,111,117,110,100,32,117,110,107,110,111,119,110,32,101,115,99,97,112,101,32,99,104,97,114,97,99,116,101,114,32,37,114]⟩ t,.str ⟨#[c]⟩ u],[]⟩) (λ_ R s=>∀t' k,R (.ok (.ret (.str (ai "found unknown escape character "++reprText ⟨#[c]⟩) t'))) {s with toks:=k}):=by
 apply KPc.meets_of
 intro _ _ _ _ _ _ hQ
 rw[KPc.entry_is_s]
 unfold Z9
 refine bq (wpAny_isInstance (typeIs_str _ _ _) F.sub_str_tuple ?_)
 refine bq (wpAny_of_eq (a:=ag _) rfl ?_)
 refine bq (KPc.wp_fills_str ?_)
 intro _
 kpc_if
 refine bq (dv ?_)
 refine bq ?_
 rw[KPc.range_list]
 refine KPc.start ?_
 intro _ _
 refine EF ?_
 kpc_check
 repeat kpc_if
 refine dv ?_
 kpc_piece
 refine EF ?_
 kpc_check
 repeat kpc_if
 refine bq ?_
 refine wpAny_holding ?_
 repeat kpc_if
 refine bq (Fc (aL hc (by rw[sizeLine_eq];decide)) ?_)
 refine bq (wpAny_of_eq (a:=ag _) rfl ?_)
 refine dv ?_
 refine dv ?_
 refine KPc.after_str (K:=100) (by kpc_g) hc (by kpc_obj) ?_
 intro _ _
 refine EF ?_
 kpc_check
 repeat kpc_if
 kpc_close
open PySem.StrLaws in
theorem MU{c:Nat}(h:c<1114112):wK c:=by
 have h2:=reprText_len ⟨#[c]⟩ (λd hd=>by
  have:d=c:=by simpa using hd
  rw[this];omega)
 exact aL h2 (by show 10*1+2≤100;decide)
theorem YC{prog:Program}{w:World}{A:eK}{E:ao→ay→Prop}{s:ay}{c:Nat}(hc:c<1114112){t u:Tok}{Q:ao→ay→Prop}(h:∀z t' k,Q (.str z t') {s with toks:=k}):
 aA (model prog w) A (binaryOp .Mod (.str ⟨#[102,111,117,110,100,32,117,110,107,110,111,119,110,32,101,115,99,97,112,101,32,99,104,97,114,97,99,116,101,114,32,37,114]⟩ t) (.str ⟨#[c]⟩ u)) Q E s:=
 binaryOp_meets (T:="str") (op:=.Mod) (typeIs_str s _ t) (typeIs_str s _ u) F.fills_str_mod aaf F.entry_str_mod (F.args_str_mod_2 _ _) (TH (MU hc)) (λt' k=>⟨(λe=>nomatch e),h _ t' k⟩)
theorem TJ{c:Nat}{i:Int}(hc:wK c)(h0:0≤i)(h1:i<1000){t t1 t2:Tok}{b:aQ}:Meets (Builtin.«str.__mod__» ⟨[.str ⟨#[101,120,112,101,99,116,101,100,32,101,115,99,97,112,101,32,115,101,113,117,101,110,99,101,32,111,102,32,37,100,32,104,101,120,97,100,101,99,105,109,97,108,32,110,117,109,98,101,114,115,44,32,98,117,116,32,102,111,117,110,100,32,37,114]⟩ t,.ref b],[]⟩)
 (λ_ R s=>IsTup s.heap b #[.int i t1,.str ⟨#[c]⟩ t2]∧∀t' k,R (.ok (.ret (.str (ai "expected escape sequence of "++(ai (toString i))++ai " hexadecimal numbers, but found "++reprText ⟨#[c]⟩) t'))) {s with toks:=k}):=by
 have hi:i<10^10:=by omega
 have hd:i.natAbs.log2<1920:=shown (N:=2^1920) (by omega) (by omega) (Int.le_refl _)
 apply KPt.meets_tup
 intro _ _ _ _ _ _ Xs hQ
 obtain⟨J9,yO,J7,aeF,J8⟩:=Xs
 rw[KPt.entry_is_r]
 unfold Z9
 refine bq (wpAny_isInstance (T:="tuple") ⟨J9,yO,J7⟩ KPt.sub_tt ?_)
 refine bq (KPt.asStr_ref yO J8 ?_)
 refine bq (KPt.fills_ref ⟨J9,yO,J7⟩ ?_)
 intro _
 kpc_if
 refine bq (wpAny_seqItems yO J8 ?_)
 refine bq (dv ?_)
 refine bq ?_
 rw[KPc.range_list]
 refine KPc.start ?_
 intro _ _
 refine EF ?_
 kpc_check
 repeat kpc_if
 refine dv ?_
 kpt_piece
 refine EF ?_
 kpc_check
 repeat kpc_if
 refine bq ?_
 refine wpAny_holding ?_
 repeat kpc_if
 kpt_conv
 refine dv ?_
 refine dv ?_
 kpt_piece
 refine EF ?_
 kpc_check
 repeat kpc_if
 refine dv ?_
 kpt_piece
 refine EF ?_
 kpc_check
 repeat kpc_if
 refine bq ?_
 refine wpAny_holding ?_
 repeat kpc_if
 refine bq (Fc (aL hc (by rw[sizeLine_eq];decide)) ?_)
 refine bq (wpAny_of_eq (a:=ag _) rfl ?_)
 refine dv ?_
 refine dv ?_
 refine KPc.after_str (K:=100) (by kpc_g) hc (by kpc_obj) ?_
 intro _ _
 refine EF ?_
 kpc_check
 repeat kpc_if
 kpc_close
theorem mod2{prog:Program}{w:World}{A:eK}{E:ao→ay→Prop}{s:ay}{c:Nat}{i:Int}(hc:c<1114112)(h0:0≤i)(h1:i<1000){t t1 t2:Tok}{b:aQ}{Q:ao→ay→Prop}(ht:IsTup s.heap b #[.int i t1,.str ⟨#[c]⟩ t2])(h:∀z t' k,Q (.str z t') {s with toks:=k}):
 aA (model prog w) A (binaryOp .Mod (.str ⟨#[101,120,112,101,99,116,101,100,32,101,115,99,97,112,101,32,115,101,113,117,101,110,99,101,32,111,102,32,37,100,32,104,101,120,97,100,101,99,105,109,97,108,32,110,117,109,98,101,114,115,44,32,98,117,116,32,102,111,117,110,100,32,37,114]⟩ t) (.ref b)) Q E s:=by
 have hT:s.TypeIs (.ref b) "tuple":=by
  obtain⟨o,ho,hc,_⟩:=ht
  exact⟨o,ho,hc⟩
 exact KPt.bin_left (T:="str") (U:="tuple") (op:=.Mod) (by decide) (typeIs_str s _ t) hT F.fills_str_mod KPt.fills_tuple aaf
  (call_meets aaf (typeIs_str s _ t) F.entry_str_mod (F.args_str_mod_2 _ _) (TJ (MU hc) h0 h1) ⟨ht,λt' k=>⟨(λe=>nomatch e),h _ t' k⟩⟩)
theorem nY:sizeLine=16777216:=by decide+kernel
theorem kC(l:List Nat):(ck l.toArray).length=l.length:=Lm
theorem Ap(a b:List Nat):(ck a.toArray++ck b.toArray:Str)=⟨(a++b).toArray⟩:=by
 show Str.append _ _=_
 simp[Str.append]
theorem yS{a n:Nat}(h:aJ a n=ae)(k:aJ n 16777216=ae):a≤sizeLine:=by
 rw[nY]
 exact aL (bw h) (bw k)
theorem lK{α:Type}{l:List α}(h:short l=ae):l.length≤sizeLine:=yS (n:=aZ) h rfl
theorem jT{a b:Int}(h:ltI a b=ae):a<b:=of_decide_eq_true h
theorem pn{a b:Int}(h:bO a b=ae):a≤b:=of_decide_eq_true h
theorem Dw{op:mj}(h:isAdd op=ae):op=.Add:=by cases op<;>first|rfl|exact nt h
theorem W0{op:mj}(h:J0 op=ae):op=.Sub:=by cases op<;>first|rfl|exact nt h
theorem JV{op:mj}(h:JU op=ae):op=.Mod:=by cases op<;>first|rfl|exact nt h
section
variable{W:Wd}{fz:Cells}{x:aQ}{A:eK}{s:ay}{Q:ao→ay→Prop}{E:ao→ay→Prop}{a b y:V}{va vb:ao}
abbrev KV(W:Wd)(fz:Cells)(x:aQ)(s:ay)(y:V)(Q:ao→ay→Prop):Prop:=∀v t,VR W fz x y v→Q v {s with toks:=t}
theorem FP{k:Int→Int→Option V}(e:p7 a b k=ag y)(ha:VR W fz x a va)(hb:VR W fz x b vb):∃i j t u,k i j=ag y∧va=.int i t∧vb=.int j u:=
 aD e λi hi e=>aD e λj hj e=>by
  rw[iE hi]at ha
  rw[iE hj]at hb
  obtain⟨t⟩:=(ha:bL _ _)
  obtain⟨u⟩:=(hb:bL _ _)
  exact⟨i,j,t,u,e,rfl,rfl⟩
theorem dF{i:Int}(h:a.i?=ag i)(ha:VR W fz x a va):bL i va:=by rw[iE h]at ha;exact ha
theorem dQ{i:List Nat}(h:a.s?=ag i)(ha:VR W fz x a va):cj i va:=by rw[jc h]at ha;exact ha
theorem jS{i:List V}(h:a.l?=ag i)(ha:VR W fz x a va):cf W fz cM (aS W fz x i) va:=by rw[DL h]at ha;exact ha
theorem rU{i:List V}(h:a.t?=ag i)(ha:VR W fz x a va):cf W fz fJ (aS W fz x i) va:=by rw[wX h]at ha;exact ha
theorem PD{i j:Int}(K:KV W fz x s (.int (i+j)) Q):∀{va vb:ao},bL i va→bL j vb→aA W.M A (binaryOp .Add va vb) Q E s
 |_,_,.mk _,.mk _=>add_int (K _ _ (bL.mk _))
theorem PE{i j:List Nat}(h:i.length+j.length≤16777216)(K:KV W fz x s (.str (i++j)) Q):∀{va vb:ao},cj i va→cj j vb→aA W.M A (binaryOp .Add va vb) Q E s
 |_,_,.mk _ _,.mk _ _=>SBL.add (λt' k _=>by rw[Ap];exact K _ _ (cj.mk (by rw[bE];exact h) t')) (by rw[nY,kC,kC];exact h)
theorem PF(e:A0 a b=ag y)(ha:VR W fz x a va)(hb:VR W fz x b vb)(K:KV W fz x s y Q):aA W.M A (binaryOp .Add va vb) Q E s:=
 dn e (λi hi e=>aD e λj hj e=>PD (so e▸K) (dF hi ha) (dF hj hb)) λ_ e=>aD e λi hi e=>aD e λj hj e=>bK e λh e=>PE (bw h) (so e▸K) (dQ hi ha) (dQ hj hb)
theorem xA{op:mj}(e:kQ op a b=ag y)(ha:VR W fz x a va)(hb:VR W fz x b vb)(K:KV W fz x s y Q):aA W.M A (binaryOp op va vb) Q E s:=by
 cases op with
 |Add=>exact PF e ha hb K
 |Sub=>obtain⟨i,j,t,u,e,e1,e2⟩:=FP e ha hb;rw[e1,e2];exact sub_int (K _ _ (so e▸bL.mk _))
 |Mod=>
  obtain⟨i,j,t,u,e,e1,e2⟩:=FP e ha hb
  rw[e1,e2]
  refine bK e λh e=>mod_int' (Int.ne_of_gt (jT h)) (K _ _ (so e▸ ?_))
  rw[Int.fmod_eq_emod_of_nonneg _ (Int.le_of_lt (jT h))]
  exact bL.mk s.toks
 |FloorDiv=>
  obtain⟨i,j,t,u,e,e1,e2⟩:=FP e ha hb
  rw[e1,e2]
  refine bK e λh e=>?_
  have h1:=jT (aF h).1
  have h2:=jT (aF h).2
  refine floordiv_int (Int.ne_of_gt h1) (K _ _ (so e▸ ?_)) (.inl (PyProof.noPylong_small (by omega)))
  rw[Int.fdiv_eq_ediv_of_nonneg _ (Int.le_of_lt h1)]
  exact bL.mk s.toks
 |_=>exact no e
theorem MW{c:Nat}(h:sign a=ag c):a=.str [c]∧c<1114112:=aD h λt ht h=>aD h λd hd h=>bK h λk h=>by rw[so h,jc ht,dN hd];exact⟨rfl,bw k⟩
theorem TM{c:Nat}(hc:c<1114112)(K:KV W fz x s .junk Q):∀{va vb:ao},cj Io va→cj [c] vb→aA W.M A (binaryOp .Mod va vb) Q E s
 |_,_,.mk _ _,.mk _ _=>YC hc λz t' k=>K _ _ (r9.mk z t')
theorem TN{i:Int}{c:Nat}(hc:c<1114112)(h0:0≤i)(h1:i<1000)(hg:dR W fz s)(K:KV W fz x s .junk Q):∀{va vb:ao},cj Ip va→cf W fz fJ (aS W fz x [.int i,.str [c]]) vb→aA W.M A (binaryOp .Mod va vb) Q E s
 |_,_,.mk _ _,.mk r vs n hA k=>by
  generalize hq:vs.toList=q at k
  obtain⟨v1,_,g1,v2,_,g2,g3⟩:=k
  obtain⟨t1⟩:=(g1:bL _ _)
  obtain⟨_,t2⟩:=(g2:cj _ _)
  rw[(g3:_=[])]at hq
  have m8:vs=#[.int i t1,.str ⟨#[c]⟩ t2]:=Array.toList_inj.mp hq
  exact mod2 hc h0 h1 ⟨_,hg _ _ hA,rfl,_,congrArg (λz=>Data.seq z n) m8⟩ λz t' k=>K _ _ (r9.mk z t')
theorem TK{op:mj}(hg:dR W fz s)(e:kY op a b=ag y)(ha:VR W fz x a va)(hb:VR W fz x b vb)(K:KV W fz x s y Q):aA W.M A (binaryOp op va vb) Q E s:=by
 refine bK e λho e=>aD e λf hf e=>dn e (λc hc e=>bK e λsS e=>?_) λ_ e=>aD e λl hl e=>aD e λp hp e=>aD e λi hi e=>aD e λc hc e=>bK e λh e=>?_
 ·obtain⟨e1,hc⟩:=MW hc
  rw[e1]at hb
  rw[JV ho]
  exact TM hc (so e▸K) (pq sS▸dQ hf ha) hb
 ·obtain⟨e1,hc⟩:=MW hc
  rw[JV ho]
  obtain⟨h1,h2⟩:=aF h
  obtain⟨h2,h3⟩:=aF h2
  refine TN hc (pn h2) (jT h3) hg (so e▸K) (pq h1▸dQ hf ha) ?_
  have:=rU hl hb
  rwa [oa hp,iE hi,e1]at this
theorem JK{a b:List Nat}{c:Bool}(e:kf a b=ag c):(!(Builtin.Str.occurrences ⟨b.toArray⟩ ⟨a.toArray⟩ 0 (ck b.toArray).length 1).isEmpty)=c:=by
 refine dn e (λd hd e=>?_) λ_ e=>bK e λhn e=>?_
 ·rw[so e,dN hd]
  have:=StrLaws.found_one ⟨b.toArray⟩
  simp only[]at this
  rw[this]
  simp
 ·rw[so e,c_ hn,StrLaws.found_iff]
  refine⟨0,?_⟩
  simp[Builtin.Str.subAt,Str.length]
theorem Ye(a b:Nat):decide (([a]:List Nat)<[b])=iL a b:=by
 rw[Bool.eq_iff_iff,decide_eq_true_iff,LD]
 simp[iL,Nat.succ_le_iff]
theorem XF(a b:Nat):(!decide (([b]:List Nat)<[a]))=aJ a b:=by
 rw[Bool.eq_iff_iff,cR,decide_eq_false_iff_not,LD]
 simp
noncomputable def J1(c:List Nat)(v:ao):Bool:=match v with|.str z _=>z==ck c.toArray|_=>af
theorem Wt{c:List Nat}:∀{l:List V}{vs:List ao}{b:Bool},lW c l=ag b→aS W fz x l vs→
 (∀y∈vs,∃z t,y=rp ⟨(z:List Nat).toArray⟩ t)∧vs.any (J1 c)=b:=λ{l}=>by
 induction l with
 |nil=>intro vs b e h;rw[(h:vs=[]),so e];exact⟨λy hy=>absurd hy List.not_mem_nil,rfl⟩
 |cons a l ih=>
  intro vs b e h
  refine aD e λt ht e=>aD e λb' hb e=>?_
  obtain⟨v,r,hv,hr⟩:=h
  obtain⟨_,tk⟩:=dQ ht hv
  obtain⟨h1,h2⟩:=ih hb hr
  refine⟨λy hy=>?_,?_⟩
  ·rcases List.mem_cons.mp hy with rfl|hy
   ·exact⟨_,_,rfl⟩
   ·exact h1 y hy
  ·rw[wg,so e,h2]
   show((ck t.toArray==ck c.toArray)||b')=_
   rw[str_beq]
   cases aB t c<;>rfl
theorem adk{fs:List (Str×V)}{es:List DictEntry}(h:gc W fz x fs es):∀e∈es,∃z,(strKind W.prog W.w).is z e.key=ae∧e.hash=ml W.w.params z:=by
 induction fs generalizing es with
 |nil=>intro e he;rw[(h:es=[])]at he;cases he
 |cons p l ih=>
  obtain⟨e0,r,⟨⟨hh,t,k⟩,_⟩,hr⟩:=h
  intro e he
  rcases List.mem_cons.mp he with rfl|he
  ·exact⟨p.1,by rw[k];exact strKind_is W.prog W.w p.1 t,hh⟩
  ·exact ih hr e he
theorem FI{fs:List (Str×V)}{es:List DictEntry}{a:aQ}{n:Nat}(ho:s.heap.get? a=ag (dictOf es n))(h:gc W fz x fs es):s.heap.MapOf (strKind W.prog W.w) a (λk=>findBy Z7 es.toArray k):=
 ⟨_,es.toArray,n,ho,⟨rfl,rfl,rfl⟩,rfl,λe he=>let⟨z,e1,e2⟩:=adk h e (by simpa using he);⟨z,e1,e2⟩,λ_=>rfl⟩
theorem Nx{a:Str}{fs:List (Str×V)}{es:List DictEntry}(h:gc W fz x fs es):oe (aV a fs) (λy=>iQ (findBy Z7 es.toArray a) (VR W fz x y)) (findBy Z7 es.toArray a=bg):=by
 induction fs generalizing es with
 |nil=>rw[(h:es=[])];rfl
 |cons p l ih=>
  obtain⟨e0,r,⟨⟨hh,t,k⟩,hy⟩,hr⟩:=h
  have ih:=ih hr
  unfold aV
  unfold findBy at ih⊢
  rw[List.find?_toArray]at ih⊢
  have e1:Z7 a e0.key=seq a p.1:=by rw[←isStr_of,k,yH]
  rw[pM,e1]
  cases q:seq a p.1 with
  |true=>exact⟨_,rfl,hy⟩
  |false=>exact ih
abbrev KB(s:ay)(c:Bool)(Q:ao→ay→Prop):Prop:=∀t,Q (.bool c) {s with toks:=t}
theorem YI{i j:Int}(K:Q (.bool (!(aI i j))) s):∀{va vb:ao},bL i va→bL j vb→aA W.M A (compareOp .NotEq va vb) Q E s
 |_,_,.mk _,.mk _=>ne_int K
theorem Yc{i j:Int}(K:Q (.bool (ltI i j)) s):∀{va vb:ao},bL i va→bL j vb→aA W.M A (compareOp .Lt va vb) Q E s
 |_,_,.mk _,.mk _=>lt_int K
theorem XB{i j:Int}(K:Q (.bool (bO i j)) s):∀{va vb:ao},bL i va→bL j vb→aA W.M A (compareOp .LtE va vb) Q E s
 |_,_,.mk _,.mk _=>le_int K
theorem Va{i j:Int}(K:Q (.bool (ltI j i)) s):∀{va vb:ao},bL i va→bL j vb→aA W.M A (compareOp .Gt va vb) Q E s
 |_,_,.mk _,.mk _=>gt_int K
theorem UW{i j:Int}(K:Q (.bool (bO j i)) s):∀{va vb:ao},bL i va→bL j vb→aA W.M A (compareOp .GtE va vb) Q E s
 |_,_,.mk _,.mk _=>ge_int K
theorem YK{i j:List Nat}(K:Q (.bool (!(aB i j))) s):∀{va vb:ao},cj i va→cj j vb→aA W.M A (compareOp .NotEq va vb) Q E s
 |_,_,.mk _ _,.mk _ _=>PyProof.Rows.ne_str (by unfold bne;rw[str_beq];exact K)
theorem Yg{i j:Nat}(K:Q (.bool (iL i j)) s):∀{va vb:ao},cj [i] va→cj [j] vb→aA W.M A (compareOp .Lt va vb) Q E s
 |_,_,.mk _ _,.mk _ _=>PyProof.Rows.lt_str (by rw[←Ye]at K;exact K)
theorem XH{i j:Nat}(K:Q (.bool (aJ i j)) s):∀{va vb:ao},cj [i] va→cj [j] vb→aA W.M A (compareOp .LtE va vb) Q E s
 |_,_,.mk _ _,.mk _ _=>PySem.P.le_str (by rw[←XF]at K;exact K)
theorem Wx{i j:List Nat}{c:Bool}(h:kf i j=ag c)(K:Q (.bool c) s):∀{va vb:ao},cj i va→cj j vb→aA W.M A (compareOp .In va vb) Q E s
 |_,_,.mk _ _,.mk _ _=>PyProof.Rows.in_str (by rw[JK h];exact K)
theorem Y6{i j:List Nat}{c:Bool}(h:kf i j=ag c)(K:Q (.bool (!c)) s):∀{va vb:ao},cj i va→cj j vb→aA W.M A (compareOp .NotIn va vb) Q E s
 |_,_,.mk _ _,.mk _ _=>PyProof.Rows.notIn_str (by have:=JK h;rw[←this]at K;exact K)
theorem Wy{i:List Nat}{l:List V}{c:Bool}(hg:dR W fz s)(h:lW i l=ag c)(K:Q (.bool c) s):∀{va vb:ao},cj i va→cf W fz fJ (aS W fz x l) vb→aA W.M A (compareOp .In va vb) Q E s
 |_,_,.mk _ _,.mk _ vs n hA hv=>by
  obtain⟨h1,h2⟩:=Wt h hv
  refine in_tupleAt (J1 i) (rT (hg _ _ hA)) (λy hy=>?_) (by rw[←Lz,h2];exact K)
  obtain⟨z,t',e⟩:=h1 y (by simpa using hy)
  rw[e]
  exact .str_str _ _ _ _
theorem Wz{i:List Nat}{l:List (Str×V)}(hg:dR W fz s)(K:KB s (oe (aV ⟨i.toArray⟩ l) (λ_=>ae) af) Q):∀{va vb:ao},cj i va→qi W fz (gc W fz x l) vb→aA W.M A (compareOp .In va vb) Q E s
 |_,_,.mk _ t,.mk _ es n hA hm hv=>by
  refine wpAny_in_of (strKind_is W.prog W.w _ t) hm (FI (hg _ _ hA) hv) ?_
  have:=Nx (a:=⟨i.toArray⟩) hv
  revert this K
  cases aV ⟨i.toArray⟩ l with
  |some y=>rintro K ⟨v,e,_⟩;rw[e];exact K _
  |none=>intro K e;rw[(e:_=bg)];exact K _
theorem KP{c:Bool}(e:a.n?=ag c)(ha:VR W fz x a va):(va==mn)=c:=by
 cases a with
 |none=>rw[so e,(ha:va=_)];rfl
 |bool=>rw[so e,(ha:va=_)];rfl
 |int=>rw[so e];obtain⟨_⟩:=(ha:bL _ _);rfl
 |str=>rw[so e];obtain⟨_⟩:=(ha:cj _ _);rfl
 |tup=>rw[so e];obtain⟨_⟩:=(ha:cf _ _ _ _ _);rfl
 |lst=>rw[so e];obtain⟨_⟩:=(ha:cf _ _ _ _ _);rfl
 |obj=>rw[so e];obtain⟨_⟩:=(ha:oy _ _ _ _ _);rfl
 |ak=>rw[so e,(ha:va=_)];rfl
 |junk=>rw[so e];obtain⟨_⟩:=(ha:r9 _);rfl
 |bi=>exact no e
 |eV=>exact no e
 |tab=>rw[so e];obtain⟨_⟩:=(ha:qi _ _ _ _);rfl
theorem W3(e:yI af a b=ag y)(ha:VR W fz x a va)(hb:VR W fz x b vb)(K:∀v,VR W fz x y v→Q v s):aA W.M A (compareOp .Is va vb) Q E s:=by
 refine gM e (λhn e=>aD e λc hc e=>?_) λ_ e=>aD e λd hd e=>?_
 ·rw[lx hn]at hb
  rw[(hb:vb=_)]
  refine is_none ?_
  rw[KP hc ha];exact K _ (so e▸rfl)
 ·rw[j9 hd]at hb
  rw[(hb:vb=_)]
  refine gM e (λhn e=>?_) λ_ e=>aD e λc hc e=>?_
  ·rw[lx hn]at ha
   rw[(ha:va=_)]
   exact dv (a:=EM (mn==EM _)) (K _ (so e▸rfl))
  ·rw[j9 hc]at ha
   rw[(ha:va=_)]
   exact PyProof.Rows.is_bool (K _ (so e▸rfl))
theorem W2(e:yI ae a b=ag y)(ha:VR W fz x a va)(hb:VR W fz x b vb)(K:∀v,VR W fz x y v→Q v s):aA W.M A (compareOp .IsNot va vb) Q E s:=by
 refine gM e (λhn e=>aD e λc hc e=>?_) λ_ e=>aD e λd hd e=>?_
 ·rw[lx hn]at hb
  rw[(hb:vb=_)]
  refine isNot_none ?_
  rw[KP hc ha];exact K _ (so e▸rfl)
 ·rw[j9 hd]at hb
  rw[(hb:vb=_)]
  refine gM e (λhn e=>?_) λ_ e=>aD e λc hc e=>?_
  ·rw[lx hn]at ha
   rw[(ha:va=_)]
   exact dv (a:=EM (mn !=EM _)) (K _ (so e▸rfl))
  ·rw[j9 hc]at ha
   rw[(ha:va=_)]
   exact PyProof.Rows.isnot_bool (K _ (so e▸rfl))
theorem Ke{i j:List Nat}{k:Nat→Nat→Bool}(h:vT i j k=ag y):∃c d,i=[c]∧j=[d]∧y=.bool (k c d):=aD h λc hc h=>aD h λd hd h=>⟨c,d,dN hc,dN hd,so h⟩
theorem Yd{i j:List Nat}(h:vT i j iL=ag y)(K:∀v,VR W fz x y v→Q v s)(ha:cj i va)(hb:cj j vb):aA W.M A (compareOp .Lt va vb) Q E s:=by
 obtain⟨c,d,rfl,rfl,rfl⟩:=Ke h
 exact Yg (K _ rfl) ha hb
theorem XE{i j:List Nat}(h:vT i j aJ=ag y)(K:∀v,VR W fz x y v→Q v s)(ha:cj i va)(hb:cj j vb):aA W.M A (compareOp .LtE va vb) Q E s:=by
 obtain⟨c,d,rfl,rfl,rfl⟩:=Ke h
 exact XH (K _ rfl) ha hb
theorem Ny{i:List (Str×V)}(h:a.As=ag i)(ha:VR W fz x a va):qi W fz (gc W fz x i) va:=by rw[adq h]at ha;exact ha
theorem sm{op:CmpOp}(hg:dR W fz s)(hu:A.units+8<cLine)(e:gN op a b=ag y)(ha:VR W fz x a va)(hb:VR W fz x b vb)(K:KV W fz x s y Q):aA W.M A (compareOp op va vb) Q E s:=by
 have K0:∀v,VR W fz x y v→Q v s:=λv hv=>K v s.toks hv
 cases op with
 |Eq=>exact aD e λc hc e=>(Si hg 8 hu ha hb hc).2 W.prog W.w E Q (K0 _ (so e▸rfl))
 |NotEq=>exact dn e (λi hi e=>aD e λj hj e=>YI (K0 _ (so e▸rfl)) (dF hi ha) (dF hj hb)) λ_ e=>aD e λi hi e=>aD e λj hj e=>YK (K0 _ (so e▸rfl)) (dQ hi ha) (dQ hj hb)
 |Lt=>exact dn e (λi hi e=>aD e λj hj e=>Yc (K0 _ (so e▸rfl)) (dF hi ha) (dF hj hb)) λ_ e=>aD e λi hi e=>aD e λj hj e=>Yd e K0 (dQ hi ha) (dQ hj hb)
 |LtE=>exact dn e (λi hi e=>aD e λj hj e=>XB (K0 _ (so e▸rfl)) (dF hi ha) (dF hj hb)) λ_ e=>aD e λi hi e=>aD e λj hj e=>XE e K0 (dQ hi ha) (dQ hj hb)
 |Gt=>exact aD e λi hi e=>aD e λj hj e=>Va (K0 _ (so e▸rfl)) (dF hi ha) (dF hj hb)
 |GtE=>exact aD e λi hi e=>aD e λj hj e=>UW (K0 _ (so e▸rfl)) (dF hi ha) (dF hj hb)
 |In=>exact aD e λi hi e=>dn e (λj hj e=>aD e λc hc e=>Wx hc (K0 _ (so e▸rfl)) (dQ hi ha) (dQ hj hb)) λ_ e=>dn e (λj hj e=>aD e λc hc e=>Wy hg hc (K0 _ (so e▸rfl)) (dQ hi ha) (rU hj hb)) λ_ e=>aD e λj hj e=>Wz hg (λt=>K _ t (so e▸rfl)) (dQ hi ha) (Ny hj hb)
 |NotIn=>exact aD e λi hi e=>aD e λj hj e=>aD e λc hc e=>Y6 hc (K0 _ (so e▸rfl)) (dQ hi ha) (dQ hj hb)
 |Is=>exact W3 e ha hb K0
 |IsNot=>exact W2 e ha hb K0
theorem adI{l:List Nat}{Q:Bool→ay→Prop}(K:∀t,Q (cY l) {s with toks:=t}):∀{v:ao},cj l v→aA W.M A (truthy v) Q E s
 |_,.mk h t=>by
  refine SBL.truthy (by rw[kC];omega) ?_
  rw[kC]
  cases l with
  |nil=>exact K _
  |cons c r=>
   have:(((c::r).length:Int) !=0)=ae:=by simp;omega
   rw[this];exact K _
theorem NI{l:List V}{Q:Bool→ay→Prop}{vs:Array ao}{d:aQ}{n:Nat}(hh:s.heap.get? d=ag (cM vs n))(hv:vs.size=l.length)(hl:short l=ae)(K:∀t,Q (cY l) {s with toks:=t}):aA W.M A (truthy (.ref d)) Q E s:=by
 have h2:=lK hl
 rw[nY]at h2
 refine wpAny_truthy_list (jR hh) (by omega) ?_
 have:(!vs.isEmpty)=cY l:=by
  cases l with
  |nil=>simp[Array.isEmpty,hv,cY]
  |cons c r=>simp[Array.isEmpty,hv,cY]
 rw[this];exact K _
theorem tZ{c:Bool}{Q:Bool→ay→Prop}(hg:dR W fz s)(e:truth a=ag c)(ha:VR W fz x a va)(K:∀t,Q c {s with toks:=t}):aA W.M A (truthy va) Q E s:=by
 cases a with
 |none=>rw[(ha:va=_)];exact truthy_none (so e▸K s.toks)
 |bool=>rw[(ha:va=_)];exact wpAny_truthy_bool (so e▸K s.toks)
 |int i=>
  obtain⟨t⟩:=(ha:bL _ _)
  refine truthy_int ?_
  have:(i !=0)=!decide (i=0):=rfl
  rw[this];exact so e▸K s.toks
 |str l=>exact adI (so e▸K) ha
 |lst l=>
  obtain⟨d,vs,n,hA,hv⟩:=(ha:cf _ _ _ _ _)
  exact bK e λh e=>NI (hg _ _ hA) hv.size h (so e▸K)
 |_=>exact no e
end
section
variable{W:Wd}{X:bU}{G:aX}{κ:aW W G}{a:Cf}{st st' :aq}{Q:ao→ay→Prop}{E:ao→ay→Prop}{s:ay}{fz:Cells}{x:aQ}{A:eK}
theorem Rel.fh{c:Act}(hA:il W c A)(R:Rel W x c st a):dR W a.fz a.s:=λ_ _ h=>R.get hA.bX h
theorem Rel.tok{c:Act}(t:Nat)(R:Rel W x c st a):Rel W x c st (a.to {a.s with toks:=t}):=R.keeps λ_ _ e=>e
abbrev Kv(κ:aW W G)(st' :aq)(y:V)(a:Cf)(Q:ao→ay→Prop):Prop:=∀d v,Le ae a d→VR W d.fz κ.x y v→Rl W κ st' d→Q v d.s
theorem Kv.kv{y:V}(K:Kv κ st y a Q)(R:Rl W κ st a):KV W a.fz κ.x a.s y Q:=λv t hv=>K (a.to {a.s with toks:=t}) v (Le.to (.mk _ t)) hv (R.tok t)
theorem Kv.up{y:V}{b:Cf}(l:Le ae a b)(K:Kv κ st' y a Q):Kv κ st' y b Q:=λd v l' =>K d v (l.trans l')
theorem mu{A:eK}{D:Nat}(h:kI A D):A.units+8<cLine:=by
 have:=h.2
 show A.units+8<9900
 omega
theorem Lf{l:List V}{i:Int}{y:V}(e:nC l i=ag y):0≤i∧i<4611686018427387904∧l[i.toNat]?=ag y:=bK e λh e=>⟨pn (aF h).1,jT (aF h).2,e⟩
theorem Xc{l:List Nat}{i:Int}(h0:0≤i)(hl:i<l.length){value slice:aw}(hs:∀o v,subscripted slice af o v=operate [o,v] (getItem o v))(K:KV W fz x s (.str [l.getD i.toNat 0]) Q):∀{va vi:ao},cj l va→bL i vi→aA W.M A (subscriptTail value slice va vi) Q E s
 |_,_,.mk _ t,.mk u=>by
  have dJ:i.toNat<l.length:=by omega
  refine tail_any (typeIs_str s _ t) slot_str_getitem.lookup (getItem_str (c:=l.getD i.toNat 0) ?_ ?_ (K _ _ (cj.mk (by simp) _))) (hs _ _)
  ·simp;omega
  ·rw[kC]
   unfold seqIndex?
   simp[Int.not_lt.mpr h0,dJ]
   rw[if_pos ⟨h0,hl⟩]
   simp[dJ]
theorem Xa{l:List V}{i:Int}{y:V}(hg:dR W fz s)(e:nC l i=ag y){value slice:aw}(hs:∀o v,subscripted slice af o v=operate [o,v] (getItem o v))(K:KV W fz x s y Q):∀{va vi:ao},cf W fz cM (aS W fz x l) va→bL i vi→aA W.M A (subscriptTail value slice va vi) Q E s
 |_,_,.mk _ vs n hA hv,.mk u=>by
  obtain⟨h0,Vh,hy⟩:=Lf e
  obtain⟨v,Dl,Dm⟩:=hv.get hy
  have hb:=(List.getElem?_eq_some_iff.mp hy).1
  exact tail_any (jR (hg _ _ hA)).typeIs slot_list_getitem.lookup (wpAny_getItem_list (jR (hg _ _ hA)) h0 (by omega) (by rw[←zM];exact Dl) (K v s.toks Dm)) (hs _ _)
theorem Xd{l:List V}{i:Int}{y:V}(hg:dR W fz s)(e:nC l i=ag y){value slice:aw}(hs:∀o v,subscripted slice af o v=operate [o,v] (getItem o v))(K:KV W fz x s y Q):∀{va vi:ao},cf W fz fJ (aS W fz x l) va→bL i vi→aA W.M A (subscriptTail value slice va vi) Q E s
 |_,_,.mk _ vs n hA hv,.mk u=>by
  obtain⟨h0,Vh,hy⟩:=Lf e
  obtain⟨v,Dl,Dm⟩:=hv.get hy
  have hb:=(List.getElem?_eq_some_iff.mp hy).1
  have el:=hv.size
  have ht:IsTup s.heap _ vs:=rT (hg _ _ hA)
  refine tail_any ht.typeIs slot_tuple_getitem.lookup (PyProof.Rows.getItem_tuple (j:=i.toNat) ht (by omega) (by omega) ?_ (by rw[←zM];exact Dl) (K v s.toks Dm)) (hs _ _)
  unfold seqIndex?
  simp[Int.not_lt.mpr h0]
  omega
theorem W_{l:List (Str×V)}{i:List Nat}{y:V}(hg:dR W fz s)(e:aV ⟨i.toArray⟩ l=ag y){value slice:aw}(hs:∀o v,subscripted slice af o v=operate [o,v] (getItem o v))(K:KV W fz x s y Q):∀{va vi:ao},qi W fz (gc W fz x l) va→cj i vi→aA W.M A (subscriptTail value slice va vi) Q E s
 |_,_,.mk _ es n hA hm hv,.mk _ u=>by
  have:=Nx (a:=⟨i.toArray⟩) hv
  rw[e]at this
  obtain⟨v,e1,e2⟩:=this
  exact tail_any (FI (hg _ _ hA) hv).typeIs slot_dict_getitem.lookup (wpAny_getItem_of (strKind_is W.prog W.w _ u) (FI (hg _ _ hA) hv) e1 (K v _ e2)) (hs _ _)
theorem J3{b i y:V}{va vi:ao}(hg:dR W fz s)(e:bx b i=ag y)(ha:VR W fz x b va)(hi:VR W fz x i vi){value slice:aw}(K:KV W fz x s y Q)
 (hs:∀o v,subscripted slice af o v=operate [o,v] (getItem o v)):aA W.M A (subscriptTail value slice va vi) Q E s:=
 dn e (λl hl e=>aD e λj hj e=>bK e λh0 e=>bK e λh1 e=>Xc (pn h0) (jT h1) hs (so e▸K) (dQ hl ha) (dF hj hi)) λ_ e=>
 dn e (λl hl e=>aD e λj hj e=>Xa hg e hs K (jS hl ha) (dF hj hi)) λ_ e=>
 dn e (λl hl e=>aD e λj hj e=>Xd hg e hs K (rU hl ha) (dF hj hi)) λ_ e=>aD e λl hl e=>aD e λj hj e=>W_ hg e hs K (Ny hl ha) (dQ hj hi)
theorem take_drop{α:Type}(l:List α)(a b:Nat):(l.drop (min a l.length)).take (min b l.length -min a l.length)=(l.take b).drop a:=by
 rw[←List.drop_take,List.take_eq_take_min (i:=b)]
 rcases LL a l.length with ha|ha
 ·rw[Nat.min_eq_left ha]
 ·rw[Nat.min_eq_right ha,Lo (by rw[zz];omega),Lo (by rw[zz];omega)]
theorem Hq(a n:Nat):max (0:Int) (min (a:Int) (n:Int))=((min a n:Nat):Int):=by rcases LL a n with h|h<;>first|(rw[Nat.min_eq_left h,Int.min_eq_left (Int.ofNat_le.mpr h)];exact Int.max_eq_right (zR _))|(rw[Nat.min_eq_right h,Int.min_eq_right (Int.ofNat_le.mpr h)];exact Int.max_eq_right (zR _))
theorem nn(a:Nat):¬((a:Int)<0):=Int.not_lt.mpr (zR _)
theorem Wo(a b n:Nat):zK (ag (a:Int)) (ag (b:Int)) 1 n=(EL (min b n -min a n)).map (λk=>min a n+k):=by
 have clip:zK (ag (a:Int)) (ag (b:Int)) 1 n=zK (ag ((min a n:Nat):Int)) (ag ((min b n:Nat):Int)) 1 n:=by
  simp only[zK,nn,if_false,Hq,Nat.min_assoc,LK,show((1:Int)>0)=True from eq_true (by decide),if_true]
 rw[clip]
 rcases LL (min a n) (min b n)with h|h
 ·exact StrLaws.strSliceIndices_plain h (EG _ _)
 ·rw[Nat.sub_eq_zero_of_le h]
  simp only[zK,sliceRange,nn,if_false,Hq,Nat.min_assoc,LK,Int.not_lt.mpr (Int.ofNat_le.mpr h),show((1:Int)>0)=True from eq_true (by decide),if_true]
  rfl
theorem ab8(l:List Nat)(a b:Nat):Txt.slice ⟨l.toArray⟩ (ag (a:Int)) (ag (b:Int))=⟨((l.take b).drop a).toArray⟩:=by
 unfold Txt.slice
 rw[kC,Wo]
 have h0:min a l.length+(min b l.length -min a l.length)≤l.length:=by rw[kq,Nat.sub_add_eq_max];exact Nat.max_le.mpr ⟨EG _ _,EG _ _⟩
 have h:=StrLaws.picks l _ _ h0
 rw[take_drop]at h
 split
 ·rename_i q
  have q:=(aF q).2
  rw[e_,List.length_range,beq_iff_eq]at q
  rw[q]at h0
  have e:min a l.length=0:=Nat.le_zero.mp (Nat.le_of_add_le_add_right (by rwa [fY]))
  rw[←take_drop,q,e,LF,Z']
 ·have e:∀L:List Nat,L.filterMap ((ck l.toArray).cps[·]?)=L.filterMap (l[·]?):=λL=>by congr 1;funext k;simp
  rw[e,h]
def PR(W:Wd)(fz:Cells)(x:aQ)(y:Option V)(v:ao):Prop:=oe y (λy=>VR W fz x y v) (v=.none)
theorem PR.up{bz:Cells}(h:Sub fz bz){y:Option V}{v:ao}(r:PR W fz x y v):PR W bz x y v:=by
 cases y with
 |none=>exact r
 |some y=>exact VR.up h r
noncomputable def EU(i:Option V):Option Int:=ob i V.i?
inductive Bd(d n:Nat):Option V→Prop
 |none (e:n=d):Bd d n bg
 |int:Bd d n (ag (.int (n:Nat)))
theorem G' {d n:Nat}{i:Option V}(h:bound d i=ag n):Bd d n i:=by
 refine dn h (λv hv h=>aD h λj hj h=>bK h λh0 h=>?_) λhn h=>?_
 ·rw[hv,iE hj,so h]
  have:=pn h0
  have e:j=(j.toNat:Int):=by omega
  rw[e,rx];exact .int
 ·rw[hn];exact .none (so h)
theorem PR.part{y:Option V}{v:ao}{d n:Nat}(b:Bd d n y):PR W fz x y v→IsPart v (EU y):=by
 induction b with
 |none e=>intro h;rw[(h:v=_)];exact .none
 |int=>intro h;obtain⟨t⟩:=(h:bL _ _);exact .int _ _
theorem L7{its:Array ao}{i j:Option V}{n m:Nat}(h1:Bd 0 n i)(h2:Bd its.size m j):slicePick its (EU i) (EU j) bg=((its.toList.take m).drop n).toArray:=by
 induction h1 with
 |none e=>
  induction h2 with
  |none e' =>show slicePick its bg bg bg=_;rw[e,e',slicePick_plain];simp
  |int=>show slicePick its bg (ag _) bg=_;rw[e,slicePick_upto',LF]
 |int=>
  induction h2 with
  |none e' =>show slicePick its (ag _) bg bg=_;rw[e',slicePick_from',List.take_of_length_le (pP tH)]
  |int=>
   show slicePick its (ag _) (ag _) bg=_
   rw[slicePick_plain]
   simp only[Option.elim,clipAt_nat]
   rw[←tH,take_drop]
theorem aS.take{l:List V}{vs:List ao}(h:aS W fz x l vs):∀n,aS W fz x (l.take n) (vs.take n):=by
 induction l generalizing vs with
 |nil=>intro n;rw[(h:vs=[])];cases n<;>rfl
 |cons y l ih=>
  obtain⟨v,r,hv,hr⟩:=h
  intro n
  cases n with
  |zero=>rfl
  |succ n=>exact .mk v _ hv (ih hr n)
theorem aS.drop{l:List V}{vs:List ao}(h:aS W fz x l vs):∀n,aS W fz x (l.drop n) (vs.drop n):=by
 induction l generalizing vs with
 |nil=>intro n;rw[(h:vs=[])];cases n<;>rfl
 |cons y l ih=>
  obtain⟨v,r,hv,hr⟩:=h
  intro n
  cases n with
  |zero=>exact .mk v r hv hr
  |succ n=>exact ih hr n
theorem XQ(value:aw)(r:ao)(u:Str)(t:Tok):letTemporaryGo value (.str u t) r=pure ():=by
 cases value<;>rfl
noncomputable abbrev mw(vi vj:ao):km:={cls:=.type "slice",data:=.fields #[vi,vj,.none]}
theorem Rr{value:aw}{lo hi:Option aw}{p:Pos}{l:List Nat}{i j:Int}{vi vj:ao}(R:Rl W κ st a)(h0:0≤i)(h1:0≤j)(K:Kv κ st (.str ((l.take j.toNat).drop i.toNat)) a Q):∀{va vi vj:ao},cj l va→bL i vi→bL j vj→aA W.M κ.A (subscriptTail value (.Slice lo hi bg p) va (.ref a.s.heap.objs.size)) Q E (pushS a.s (mw vi vj))
 |_,_,_,.mk hn t,.mk u,.mk u' =>by
  obtain⟨m,c1,f,e,⟨c2,F,H,S⟩,L⟩:=R
  refine slice_strN_ss F H.N (λh' t' k' F' N' =>?_) rfl (λr=>XQ _ _ _ _) (by rw[nY,kC];exact hn)
  have ei:i=(i.toNat:Int):=by omega
  have ej:j=(j.toNat:Int):=by omega
  rw[ei,ej,ab8]
  exact K (a.to ⟨h',a.s.gens,a.s.drawn,k',a.s.os⟩) _ (Le.to (.mk h' k')) (cj.mk (by simp;omega) t') ⟨m,c1,f,e,⟨c2,F',⟨N',H.D⟩,S⟩,L⟩
theorem Mf{o:km}(R:Rl W κ st a):Rl W κ st (a.to (pushS a.s o)):=R.keeps (wB _ _)
theorem rl{e:aw}{q:Str×Pos}(h:jx e=ag q):e=.Name q.1 q.2:=by
 obtain⟨hc,rfl⟩:=ud h
 exact zH (motive_1:=λe=>∀h:e.ctorIdx=23,e=.Name (zH (motive_1:=λ_=>Str×Pos) e h λid p=>(id,p)).1 (zH (motive_1:=λ_=>Str×Pos) e h λid p=>(id,p)).2) e hc (λid p h=>rfl) hc
theorem KS{value:aw}(h:isName value=ae):∃id p,value=.Name id p:=by
 unfold isName at h
 cases q:jx value with
 |none=>rw[q]at h;exact nt h
 |some p=>exact⟨_,_,rl q⟩
theorem ly{e:aw}{id:Str}(h:nameOf e=ag id):∃p,e=.Name id p:=aD h λq hq h=>⟨q.2,by rw[so h];exact rl hq⟩
theorem xw{e:aw}{q:aw×Str×Pos}(h:oH e=ag q):e=.Attribute q.1 q.2.1 q.2.2:=by
 obtain⟨hc,rfl⟩:=ud h
 exact zP (motive_1:=λe=>∀h:e.ctorIdx=20,e=.Attribute (zP (motive_1:=λ_=>aw×Str×Pos) e h λo a p=>(o,a,p)).1 (zP (motive_1:=λ_=>aw×Str×Pos) e h λo a p=>(o,a,p)).2.1 (zP (motive_1:=λ_=>aw×Str×Pos) e h λo a p=>(o,a,p)).2.2) e hc (λo a p h=>rfl) hc
theorem Np{e:aw}{q:aw×aw×Pos}(h:Ar e=ag q):e=.Subscript q.1 q.2.1 q.2.2:=by
 obtain⟨hc,rfl⟩:=ud h
 exact zQ (motive_1:=λe=>∀h:e.ctorIdx=21,e=.Subscript (zQ (motive_1:=λ_=>aw×aw×Pos) e h λo i p=>(o,i,p)).1 (zQ (motive_1:=λ_=>aw×aw×Pos) e h λo i p=>(o,i,p)).2.1 (zQ (motive_1:=λ_=>aw×aw×Pos) e h λo i p=>(o,i,p)).2.2) e hc (λo i p h=>rfl) hc
theorem NL{e:aw}{q:List aw×Nat×Pos}(h:Au e=ag q):e=.Tuple q.1 q.2.1 q.2.2:=by
 obtain⟨hc,rfl⟩:=ud h
 exact zA (motive_1:=λe=>∀h:e.ctorIdx=25,e=.Tuple (zA (motive_1:=λ_=>List aw×Nat×Pos) e h λts k p=>(ts,k,p)).1 (zA (motive_1:=λ_=>List aw×Nat×Pos) e h λts k p=>(ts,k,p)).2.1 (zA (motive_1:=λ_=>List aw×Nat×Pos) e h λts k p=>(ts,k,p)).2.2) e hc (λts k p h=>rfl) hc
theorem xx{e:aw}{q:Str×Str}(h:uF e=ag q):∃np p,e=.Attribute (.Name q.1 np) q.2 p:=aD h λz hz h=>aD h λo ho h=>by
 obtain⟨np,e1⟩:=ly ho
 exact⟨np,z.2.2,by rw[so h,xw hz,e1]⟩
theorem Rp{value:aw}{lo hi:Option aw}{p:Pos}{l:List V}{i j:Option V}{n m:Nat}{vi vj:ao}(R:Rl W κ st a)(hn:isName value=ae)(hl:short l=ae)(h1:Bd 0 n i)(h2:Bd l.length m j)(K:Kv κ st (.lst ((l.take m).drop n)) a Q)(pi:PR W a.fz κ.x i vi)(pj:PR W a.fz κ.x j vj):
 ∀{va:ao},cf W a.fz cM (aS W a.fz κ.x l) va→aA W.M κ.A (subscriptTail value (.Slice lo hi bg p) va (.ref a.s.heap.objs.size)) Q E (pushS a.s (mw vi vj))
 |_,.mk d vs k hA hv=>by
  have hg:=R.get κ.hA.bX hA
  rw[←hv.size]at h2
  obtain⟨id,np,rfl⟩:=KS hn
  refine slice_listK (jR hg) (pi.part h1) (pj.part h2) ?_ rfl (λr=>rfl) (hv.size▸lK hl)
  rw[L7 h1 h2,show a.s.heap.objs.size+1=(a.s.heap.push (mw vi vj)).objs.size from(zD ..).symm]
  exact K (((a.to (pushS a.s (mw vi vj))).fr _ _)) _ ((Le.to (.mk _ _)).trans (Le.fr (.mk _ _))) (cf.mk _ _ 0 (.here _ _) (((hv.take m).drop n).up (Sub.cons _ _))) ((Mf (o:=mw vi vj) R).push (o:=cM ((vs.toList.take m).drop n).toArray 0) rfl)
theorem Rv{value:aw}{lo hi:Option aw}{p:Pos}{b y:V}{i j:Option V}{va vi vj:ao}(R:Rl W κ st a)(e:fy (isName value) b i j=ag y)(ha:VR W a.fz κ.x b va)(pi:PR W a.fz κ.x i vi)(pj:PR W a.fz κ.x j vj)(K:Kv κ st y a Q):
 aA W.M κ.A (subscriptTail value (.Slice lo hi bg p) va (.ref a.s.heap.objs.size)) Q E (pushS a.s (mw vi vj)):=by
 refine dn e (λl hl e=>aD e λi' qO e=>aD e λj' sT e=>bK e λh e=>?_) λ_ e=>aD e λl hl e=>bK e λh e=>aD e λn hn e=>aD e λm hm e=>?_
 ·refine aD qO λv hv qO=>aD sT λu hu sT=>?_
  rw[hv,iE qO]at pi
  rw[hu,iE sT]at pj
  exact Rr (vi:=vi) (vj:=vj) R (pn (aF h).1) (pn (aF h).2) (so e▸K) (dQ hl ha) pi pj
 ·exact Rp R (aF h).1 (aF h).2 (G' hn) (G' hm) (so e▸K) pi pj (jS hl ha)
end
section
variable{W:Wd}{X:bU}{G:aX}{κ:aW W G}{a:Cf}{st st' :aq}{Q:ao→ay→Prop}{E:ao→ay→Prop}{s:ay}{fz:Cells}{x:aQ}{A:eK}{c:Act}
theorem qZ(κ:aW W G){id:Str}{k:NameKind}(h:κ.env.kindOf id=ag k):(id==("__debug__":Str))=af:=by
 cases q:id==("__debug__":Str)with
 |false=>rfl
 |true=>rw[eq_of_beq q,κ.hd]at h;cases h
theorem ju(κ:aW W G){id:Str}(h:isLocal (G.kind id)=ae):κ.env.kindOf id=ag .local:=(κ.kind id).symm.trans (yF h)
theorem o7(κ:aW W G){id:Str}(h:qW (G.kind id)=ae):κ.env.kindOf id=ag .globalImplicit:=(κ.kind id).symm.trans (WV h)
theorem tn{id:Str}{y:FV}(h:q8 G id st=ag y):isLocal (G.kind id)=ae∧aV id st.loc=ag y:=bK h λh e=>⟨h,e⟩
theorem tB{id:Str}{pos:Pos}{y:V}(hk:isLocal (G.kind id)=ae)(hl:aV id st.loc=ag (.v y))(R:Rl W κ st a)(K:∀v,VR W a.fz κ.x y v→Q v a.s):aA W.M κ.A (eval (.Name id pos) κ.env) Q E a.s:=by
 obtain⟨m,v,n,e,k⟩:=R.look hl
 exact wpAny_Name (wpAny_loadName_local κ.hA.kind (ju κ hk) n e (K v k)) (qZ κ (ju κ hk))
theorem YH{id:Str}{pos:Pos}{l:List V}(hk:isLocal (G.kind id)=ae)(hl:aV id st.loc=ag (.own l))(R:Rl W κ st a)(K:Kv κ (d7 id (.lst l) st) (.lst l) a Q):aA W.M κ.A (eval (.Name id pos) κ.env) Q E a.s:=by
 obtain⟨m,c1,f,e,⟨c2,F,H,S⟩,L⟩:=R
 obtain⟨v,e1,r⟩:=L.at_ hl
 obtain⟨e2,vs,n,hm,k⟩:=(r:_∧kH _ _ _ _ _ _)
 refine wpAny_Name (wpAny_loadName_local κ.hA.kind (ju κ hk) F.ns e1 ?_) (qZ κ (ju κ hk))
 obtain⟨p1,p2,rfl⟩:=List.append_of_mem hm
 have hH:Hp κ.c a.s.heap (c2++((p1++p2++a.rest)++(a.π.l id,listOf vs n)::a.fz)):=by
  refine H.perm (List.Perm.append_left c2 ?_)
  refine List.Perm.trans ?_ List.perm_middle.symm
  exact(List.perm_middle.append_right a.rest).append_right a.fz
 rw[e2]at e1⊢
 have hS:VR W ((a.π.l id,cM vs n)::a.fz) κ.x (.lst l) (.ref (a.π.l id)):=cf.mk _ vs n (.here _ _) (k.up (Sub.cons _ _))
 refine K (a.fr _ a.s) _ (Le.fr (cU.refl _)) hS ⟨m,p1++p2,f,e,⟨c2,F,hH,S.up (Sub.cons _ _)⟩,L.swap (Sub.cons _ _) (λq hq ne=>?_) hl rfl e1 hS⟩
 rcases List.mem_append.mp hq with hq|hq
 ·exact ib _ hq
 ·rcases List.mem_cons.mp hq with hq|hq
  ·exact absurd (congrArg (·.1) hq) ne
  ·exact bM _ hq
theorem YG{id:Str}{pos:Pos}{y:V}(hg:qd W id y)(hk:qW (G.kind id)=ae)(R:Rl W κ st a)(K:∀v,VR W a.fz κ.x y v→Q v a.s):aA W.M κ.A (eval (.Name id pos) κ.env) Q E a.s:=by
 obtain⟨m,c1,f,e,⟨c2,F,H,S⟩,L⟩:=R
 rcases hg with⟨v,e,hv⟩|⟨v,e,e2,e3,hv⟩
 ·exact nameX_K F κ.hA.bX κ.hA.top e (K v ((hv κ.x).up (Sub.nil _))) κ.hA.kind (o7 κ hk) (qZ κ (o7 κ hk))
 ·exact nameX_B F κ.hA.bX κ.hA.top e e2 e3 (K v ((hv κ.x).up (Sub.nil _))) κ.hA.kind (o7 κ hk) (qZ κ (o7 κ hk))
theorem GV{K:jX}{C:aQ}{a:Str}(h:attrOk K C a=ae):plainGet K C a=ae∧hasDictIn K C=ae∧(∃at_,findIn K (.ref C) a=ag at_∧noGet K at_=ae)∧
 findIn K (.ref C) "__setattr__"=ag (ag (.builtin "object.__setattr__"))∧plainOver K C=ae∧takerIn K C a=ag bg:=by
 obtain⟨h1,h⟩:=aF h
 obtain⟨h2,h⟩:=aF h
 obtain⟨h3,h⟩:=aF h
 obtain⟨h4,h⟩:=aF h
 obtain⟨h5,h6⟩:=aF h
 refine⟨h1,h2,?_,beq_iff_eq.mp h4,h5,beq_iff_eq.mp h6⟩
 cases q:findIn K (.ref C) a with
 |none=>rw[q]at h3;exact nt h3
 |some z=>rw[q]at h3;exact⟨z,rfl,h3⟩
theorem ym{ox:km}{C:aQ}{nm:Str}{es:List DictEntry}{n:Nat}{v:ao}{expr:Bool}{d:aQ}{m:Str→Option ao}(hK:W.K.In c.h₀)(F:Fr c.h₀ c.L s.heap m)(I:InstAt s.heap d ox C (ag (dictOf es n)))
 (ha:kP W.K C nm=ae) (g:gl es nm=ag v) (hh:handedIn v=ae) (h:Q v {s with toks:=s.toks+1}):aA W.M A (getAttr (.ref d) nm expr) Q E s:=by
 rcases Bool.or_eq_true_iff.mp ha with e|e
 ·obtain⟨a1,a2,⟨at_,a3,a4⟩,_⟩:=GV e
  exact get_own F hK I a1 a2 a3 a4 (Cs g) hh h
 ·exact SE (hK.keeps F.keep) I (aF e).1 (Cs g) hh h
theorem IX{ox:km}{C:aQ}{nm:Str}{es:List DictEntry}{n:Nat}{y:V}{expr:Bool}{d:aQ}{m:Str→Option ao}(hK:W.K.In c.h₀)(F:Fr c.h₀ c.L s.heap m)(I:InstAt s.heap d ox C (ag (dictOf es n)))
 (hc:xg W C nm y) (g:getL nm es=ag bg) (K:∀v,VR W [] x y v→Q v {s with toks:=s.toks+1}):aA W.M A (getAttr (.ref d) nm expr) Q E s:=by
 obtain⟨v,h1,h2⟩:=hc
 obtain⟨a1,h⟩:=aF h1
 obtain⟨a2,h⟩:=aF h
 obtain⟨a3,h⟩:=aF h
 obtain⟨a4,h⟩:=aF h
 obtain⟨a5,a6⟩:=aF h
 exact get_cls F hK I a1 a2 (beq_iff_eq.mp a3) (beq_iff_eq.mp a4) a5 (by rwa [cR]at a6) g (K v (h2 x))
inductive Gm(W:Wd)(fz:Cells)(x:aQ)(c:Act)(h:cG)(nm:Str)(C:aQ)(o:Option FV):ao→Prop
 |mk (d:aQ) (m:Str→Option ao) (ox:km) (es:List DictEntry) (n:Nat) (F:Fr c.h₀ c.L h m) (I:InstAt h d ox C (ag (dictOf es n))) (k:∀y,o=ag (.v y)→iQ (gl es nm) (VR W fz x y)) (z:o=bg→getL nm es=ag bg):Gm W fz x c h nm C o (.ref d)
theorem Ij{v:V}{nm:Str}{q:aQ×Option FV}{va:ao}(h:Ih v nm st=ag q)(hv:VR W a.fz κ.x v va)(R:Rl W κ st a):Gm W a.fz κ.x κ.c a.s.heap nm q.1 q.2 va:=by
 refine gM h (λhs h=>aD h λp hp h=>?_) λ_ h=>aD h λp hp h=>?_
 ·rw[tU hs]at hv
  rw[(hv:va=_),so h]
  obtain⟨f,_,m,o,es,n,c3,F,I,z,R',k⟩:=R.inst hp
  exact⟨_,m,o,es,n,F,I,λy hy=>R'.at_ hy,λhy=>gl_none (z.2 _ hy) z.1⟩
 ·rw[Eu hp]at hv
  obtain⟨d,o,dd,es,n,h1,e1,e2,e3,h2,z,k⟩:=(hv:oy _ _ _ _ _)
  obtain⟨m,c1,f,e,⟨c2,F,H,S⟩,L⟩:=R
  rw[so h]
  refine⟨d,m,o,es,n,F,⟨h1.get κ.hA.bX F H,e1,e3,by rw[e2];exact h2.get κ.hA.bX F H⟩,λy hy=>?_,λhy=>gl_none (z.2 _ ?_) z.1⟩
  ·cases q:aV nm p.2 with
   |none=>rw[q]at hy;exact no hy
   |some w=>rw[q]at hy;cases hy;exact k.get q
  ·cases q:aV nm p.2 with
   |none=>rfl
   |some w=>rw[q]at hy;cases hy
theorem PU{v y:V}{nm:Str}{va:ao}{expr:Bool}(hG:cb W X G)(h:uG G v nm st=ag y)(hv:VR W a.fz κ.x v va)(R:Rl W κ st a)(K:Kv κ st y a Q):aA W.M κ.A (getAttr va nm expr) Q E a.s:=by
 refine aD h λq hq h=>?_
 obtain⟨d,m,ox,es,n,F,I,k,z⟩:=Ij hq hv R
 refine dn h (λf hf h=>aD h λw hw h=>bK h λh2 h=>?_) λhn h=>?_
 ·obtain⟨u,e,hu⟩:=k w (by rw[hf,kc hw])
  exact ym κ.hA.bX F I (hG.attrs _ (o_ h2)) e hu.handed (K.kv R u (a.s.toks+1) (so h▸hu))
 ·exact IX (x:=κ.x) κ.hA.bX F I (hG.jI _ (DV h)) (z hn) λu hu=>K.kv R u (a.s.toks+1) (hu.up (Sub.nil _))
theorem GY{o:aw}(hb:baseOk o=ae)(a:Str)(env:Env)(whole:Sem ao):attributeBase o a env whole=whole:=by
 cases o<;>first|rfl|exact nt hb
theorem PT{o:aw}(hb:baseOk o=ae)(a:Str)(pos:Pos)(env:Env):eval (.Attribute o a pos) env=(do
 let ov ←eval o env
 standAt pos.atName
 let r ←holding [ov] (getAttr ov a ae)
 letTemporaryGo o ov r
 pure r):=by
 rw[arm_eval_Attribute,GY hb]
theorem BU{o:aw}{nm:Str}{pos:Pos}(hb:baseOk o=ae)(h:aA W.M A (eval o c.env) (λov cu=>aA W.M A (getAttr ov nm ae) Q E cu) E s):aA W.M A (eval (.Attribute o nm pos) c.env) Q E s:=Attribute_any_ h (PT hb nm pos c.env)
theorem WY{o:Str}(h:gp G o st=ae):isLocal (G.kind o)=ae∧aV o st.loc=ag (.v .ak):=by
 unfold gp at h
 cases q:ob (q8 G o st) FV.v? with
 |none=>rw[q]at h;exact nt h
 |some v=>
  rw[q]at h
  refine aD q λy hy e=>?_
  obtain⟨h1,h2⟩:=tn hy
  exact⟨h1,by rw[h2,kc e,tU h]⟩
theorem wH{o:Str}{np:Pos}(h:gp G o st=ae)(R:Rl W κ st a)(K:Q (.ref κ.x) a.s):aA W.M κ.A (eval (.Name o np) κ.env) Q E a.s:=by
 obtain⟨h1,h2⟩:=WY h
 exact tB h1 h2 R λv hv=>(hv:v=_)▸K
inductive AD(W:Wd)(x:aQ)(c:Act)(C:aQ)(fs:FS)(nm:Str)(y:FV)(st:aq)(a:Cf)(f:iP)(d:aQ)(o:km):Prop
 |mk (m:Str→Option ao) (ox:km) (es:List DictEntry) (n:Nat) (F:Fr c.h₀ c.L a.s.heap m) (I:InstAt a.s.heap x ox C (ag (dictOf es n))) (e:gl es nm=ag (.ref d)) (g:a.s.heap.get? d=ag o) (L:d≠c.L)
  (k:∀y' o' (s' :ay),pL d a.s.heap s'.heap→s'.heap.get? d=ag o' →(∀cs,(d,o')∈cs→FR W a.fz x cs (f.f nm) y' (.ref d))→Rel W x c ⟨st.loc,ag (C,di nm y' fs),st.free⟩ (a.to s')):AD W x c C fs nm y st a f d o
theorem Only.put{fs:FS}{es:List DictEntry}{nm:Str}{y y' :FV}(h:aV nm fs=ag y)(z:Only fs es):Only (di nm y' fs) es:=⟨z.1,λb hb=>z.2 b (by
 by_cases e:b=nm
 ·rw[e,look_same]at hb;cases hb
 ·rwa [DX e]at hb)⟩
theorem aeI{α:Type}{x:Str}{v u:α}{l:List (Str×α)}(h:aV x l=ag u):l.length≤(di x v l).length:=(z6 l).1
theorem Bz{C:aQ}{fs:FS}{nm:Str}{y:FV}(hs:st.self=ag (C,fs))(hl:aV nm fs=ag y)(hc:cell y=ae)(R:Rl W κ st a):∃f d o,(st.free=ae∨f=a.π.f)∧AD W κ.x κ.c C fs nm y st a f d o∧(∃cs,(d,o)∈cs∧FR W a.fz κ.x cs (f.f nm) y (.ref d)∧∀p∈cs,a.s.heap.get? p.1=ag p.2):=by
 obtain⟨m,c1,f,e,⟨c2,F,H,S⟩,L⟩:=R
 rw[hs]at S
 obtain⟨d,es,n,c3,oc,od,on,le,z,R'⟩:=(S:kJ _ _ _ _ _ _ _)
 obtain⟨v,g,r⟩:=R'.at_ hl
 obtain⟨b,ob,rfl,hm⟩:=r.cell hc
 have hN:=H.N (b,ob) (ib _ (.tail _ (.tail _ hm)))
 refine⟨f,b,ob,e,⟨m,f.o,es,n,F,⟨H.N.get (.head _),oc,on,by rw[od];exact H.N.get (.tail _ (.head _))⟩,g,hN.1,hN.2.1,λy' o' s' yy ho hy=>?_⟩,c3,hm,r,λp hp=>H.N.get (ib _ (.tail _ (.tail _ hp)))⟩
 have hH:Hp κ.c s'.heap (((κ.x,f.o)::(d,dictOf es n)::setC b o' c3)++((c1++a.rest)++a.fz)):=Hp.set (c2:=[(κ.x,f.o),(d,dictOf es n)]) hm yy ho H
 exact⟨m,c1,f,e,⟨_,F.change yy hN.2.1 hN.2.2,hH,kJ.mk d es n _ oc od on (aL le (z6 fs).1) (z.put hl) (R'.swap (Sub.refl _) (λ_=>MQ) hl hc g (hy _ (MP hm)))⟩,L⟩
end
noncomputable def Pl.addr(π:Pin)(p:Pl):aQ:=Pl.casesOn p π.l π.f.f
section
variable{W:Wd}{X:bU}{G:aX}{κ:aW W G}{a:Cf}{st st' :aq}{Q:ao→ay→Prop}{E:ao→ay→Prop}{s:ay}{fz:Cells}{x:aQ}{A:eK}{c:Act}
inductive GF(W:Wd)(x:aQ)(c:Act)(st:aq)(a:Cf)(p:Pl)(l:List V):Prop
 |mk (vs:Array ao) (n:Nat) (g:a.s.heap.get? (p.addr a.π)=ag (listOf vs n)) (k:aS W a.fz x l vs.toList)
  (up:∀(s' :ay) l' fu n',pL (p.addr a.π) a.s.heap s'.heap→s'.heap.get? (p.addr a.π)=ag (listOf fu n')→aS W a.fz x l' fu.toList→Rel W x c (p.put st l') (a.to s')):GF W x c st a p l
theorem Rel.place{p:Pl}{l:List V}(hp:p.get st=ag l)(R:Rl W κ st a):GF W κ.x κ.c st a p l:=by
 cases p with
 |loc id=>
  refine aD hp λy hy e=>?_
  rw[qG e]at hy
  obtain⟨m,c1,f,e,⟨c2,F,H,S⟩,L⟩:=R
  obtain⟨v,e1,r⟩:=L.at_ hy
  obtain⟨e2,vs,n,hm,k⟩:=(r:_∧kH _ _ _ _ _ _)
  have hN:=H.N _ (bM _ (ib _ (ib _ hm)))
  rw[e2]at e1
  refine⟨vs,n,hN.1,k,λs' l' fu n' hs ho hv=>?_⟩
  have H' :Hp κ.c s'.heap (c2++((setC (a.π.l id) (listOf fu n') c1++a.rest)++a.fz)):=by
   rw[aR]at H⊢
   exact Hp.set (z:=a.rest++a.fz) hm hs ho H
  exact⟨m,_,f,e,⟨c2,F.change hs hN.2.1 hN.2.2,H',S⟩,L.swap (Sub.refl _) (λ_=>MQ) hy rfl e1 ⟨rfl,fu,n',MP hm,hv⟩⟩
 |fld nm=>
  refine Cc hp λhf e=>aD e λq hq e=>aD e λy hy e=>?_
  rw[qG e]at hy
  obtain⟨f,d,o,iD,⟨m,ox,es,n,F,I,e1,g,hL,up⟩,cs,hm,r,CF⟩:=Bz (C:=q.1) (fs:=q.2) hq hy rfl R
  obtain⟨e2,vs,n',CW,k⟩:=(r:_∧kH _ _ _ _ _ _)
  have ef:f=a.π.f:=iD.elim (λh=>by rw[hf]at h;cases h) id
  have ed:d=a.π.f.f nm:=by rw[←ef];exact Value.ref.inj e2
  rw[←ef]at ed
  have hg:a.s.heap.get? (a.π.f.f nm)=ag (listOf vs n'):=by rw[←ef];exact CF _ CW
  refine⟨vs,n',hg,k,λs' l' fu k' hs ho hv=>?_⟩
  have:=up (.own l') (listOf fu k') s' (by rw[ed,ef];exact hs) (by rw[ed,ef];exact ho) λcs hc=>⟨congrArg jV ed,fu,k',ed▸hc,hv⟩
  have e:Pl.put st l' (.fld nm)=⟨st.loc,ag (q.1,di nm (.own l') q.2),st.free⟩:=by
   show(⟨st.loc,st.self.map _,st.free⟩:aq)=_
   rw[hq];rfl
  rw[e];exact this
theorem Ac{C:aQ}{fs:FS}{nm:Str}{y:FV}(h:wG G C fs nm=ag y):aV nm fs=ag y∧mZ C nm G.attrs=ae:=aD h λz hz h=>bK h λh2 h=>⟨by rw[so h];exact hz,h2⟩
theorem Ii{o nm:Str}{np ap:Pos}{C:aQ}{fs:FS}{y:FV}(hG:cb W X G)(h1:gp G o st=ae)(hs:st.self=ag (C,fs))(h2:mZ C nm G.attrs=ae)(R:Rl W κ st a){f:iP}{d:aQ}{ob:km}(c:AD W κ.x κ.c C fs nm y st a f d ob)(K:Q (.ref d) {a.s with toks:=a.s.toks+1}):
 aA W.M κ.A (eval (.Attribute (.Name o np) nm ap) κ.env) Q E a.s:=by
 obtain⟨m,ox,es,n,F,I,e1,g,hL,up⟩:=c
 exact BU rfl (wH h1 R (ym κ.hA.bX F I (hG.attrs _ (o_ h2)) e1 rfl K))
theorem EZ{e:aw}{p:Pl}(hG:cb W X G)(h:placeOf G e st=ag p)(R:Rl W κ st a)(K:∀t,Q (.ref (p.addr a.π)) {a.s with toks:=t}):aA W.M κ.A (eval e κ.env) Q E a.s:=by
 refine dn h (λid gn h=>aD h λl hl h=>aD hl λy hy hl=>?_) λ_ h=>aD h λq hq h=>bK h λhs h=>Cc h λhf h=>aD h λr hr h=>aD h λl hl h=>aD hl λy hy hl=>?_
 ·obtain⟨np,e1⟩:=ly gn
  obtain⟨h1,h2⟩:=tn hy
  rw[qG hl]at h2
  obtain⟨m,c1,f,e,⟨c2,F,H,S⟩,L⟩:=R
  obtain⟨v,e3,r⟩:=L.at_ h2
  rw[(r:_∧kH _ _ _ _ _ _).1]at e3
  rw[so h]at K
  rw[e1]
  exact wpAny_Name (wpAny_loadName_local κ.hA.kind (ju κ h1) F.ns e3 (K a.s.toks)) (qZ κ (ju κ h1))
 ·obtain⟨np,ap,e1⟩:=xx hq
  obtain⟨h1,h2⟩:=Ac hy
  rw[qG hl]at h1
  obtain⟨f,d,o,iD,c,cs,hm,k,_⟩:=Bz (C:=r.1) (fs:=r.2) hr h1 rfl R
  have ef:f=a.π.f:=iD.elim (λh=>by rw[hf]at h;cases h) id
  have ed:=(k:_∧kH _ _ _ _ _ _).1
  rw[so h]at K
  rw[e1]
  refine Ii hG hs hr h2 R c ?_
  rw[ed,ef];exact K _
theorem aaV{e:aw}{p:Pl}(h:placeOf G e st=ag p):∃l,p.get st=ag l:=by
 refine dn h (λid gn h=>aD h λl hl h=>aD hl λy hy hl=>?_) λ_ h=>aD h λq hq h=>bK h λhs h=>Cc h λhf h=>aD h λr hr h=>aD h λl hl h=>aD hl λy hy hl=>?_
 ·exact⟨l,by rw[so h];show ob (aV id st.loc) _=_;rw[(tn hy).2];exact hl⟩
 ·exact⟨l,by rw[so h];show ff st.free (ob st.self _)=_;rw[hf,hr];show ob (aV q.2 r.2) _=_;rw[(Ac hy).1];exact hl⟩
theorem eO.names:∀{l:List (Int×V)}{kvs:List (Int×ao)},eO W fz x l kvs→kvs.map (·.1)=l.map (·.1):=λ{l}=>by
 induction l with
 |nil=>intro kvs h;rw[(h:kvs=[])];rfl
 |cons p l ih=>intro kvs h;obtain⟨v,r,hv,hr⟩:=h;rw[rA,rA,ih hr,hv.1]
theorem eO.length{l:List (Int×V)}{kvs:List (Int×ao)}(h:eO W fz x l kvs):kvs.length=l.length:=by
 have:=congrArg av h.names
 rwa [e_,e_]at this
theorem HO{i j:Int}(h:aI i j=af):¬i=j:=of_decide_eq_false h
theorem eO.look{k:Int}:∀{l:List (Int×V)}{kvs:List (Int×ao)},eO W fz x l kvs→oe (jv k l) (λy=>iQ (valueAt kvs k) (VR W fz x y)) (valueAt kvs k=bg):=λ{l}=>by
 induction l with
 |nil=>intro kvs h;rw[(h:kvs=[])];rfl
 |cons p l ih=>
  intro kvs h
  obtain⟨⟨j,v⟩,r,hv,hr⟩:=h
  have hj:j=p.1:=hv.1
  have ih:=ih hr
  unfold jv
  unfold valueAt at ih⊢
  rw[pM,hj]
  cases q:aI p.1 k with
  |true=>rw[show decide (p.1=k)=ae from q];exact⟨v,rfl,hv.2⟩
  |false=>rw[show decide (p.1=k)=af from q];exact ih
theorem eO.same{k:Int}{v:ao}:∀{l:List (Int×V)}{kvs:List (Int×ao)},eO W fz x l kvs→k∉l.map (·.1)→(kvs.map λkv=>if kv.1=k then(kv.1,v)else kv)=kvs:=λ{l kvs} h hn=>by
 rw[←h.names]at hn
 exact(Lv λp hp=>if_neg λe=>hn (List.mem_map.mpr ⟨p,hp,e⟩)).trans (List.map_id _)
theorem eO.put{k:Int}{y:V}{v:ao}(hv:VR W fz x y v):∀{l:List (Int×V)}{kvs:List (Int×ao)},eO W fz x l kvs→(kvs.map (·.1)).Nodup→eO W fz x (pR k y l) (stored kvs k v):=λ{l}=>by
 induction l with
 |nil=>intro kvs h _;rw[(h:kvs=[])];exact .mk (k,v) [] ⟨rfl,hv⟩ rfl
 |cons p l ih=>
  intro kvs h hn
  obtain⟨⟨j,u⟩,r,h0,hr⟩:=h
  have hj:j=p.1:=h0.1
  obtain⟨n1,n2⟩:=List.nodup_cons.mp hn
  have ih:=ih hr n2
  unfold pR
  unfold stored at ih⊢
  cases q:aI p.1 k with
  |true=>
   have e:j=k:=hj.trans (oQ.mp q)
   rw[wg,decide_eq_true e,Bool.true_or,if_pos rfl,rA,if_pos e,hr.same (by rw[←hr.names,←e];exact n1)]
   exact .mk (j,v) r ⟨hj,hv⟩ hr
  |false=>
   have e:¬j=k:=hj▸HO q
   rw[wg,decide_eq_false e,Bool.false_or]
   by_cases hm:(r.any λkv=>decide (kv.1=k))=ae
   ·rw[if_pos hm]at ih⊢
    rw[rA,if_neg e]
    exact .mk (j,u) _ h0 ih
   ·rw[if_neg hm]at ih⊢
    exact .mk (j,u) _ h0 ih
theorem eO.del{k:Int}:∀{l:List (Int×V)}{kvs:List (Int×ao)},eO W fz x l kvs→(kvs.map (·.1)).Nodup→eO W fz x (mM k l) (without kvs k):=λ{l}=>by
 induction l with
 |nil=>intro kvs h _;rw[(h:kvs=[])];exact rfl
 |cons p l ih=>
  intro kvs h hn
  obtain⟨⟨j,u⟩,r,h0,hr⟩:=h
  have hj:j=p.1:=h0.1
  obtain⟨n1,n2⟩:=List.nodup_cons.mp hn
  have ih:=ih hr n2
  unfold mM
  unfold without at ih⊢
  rw[List.filter_cons]
  cases q:aI p.1 k with
  |true=>
   have e:j=k:=hj.trans (oQ.mp q)
   have e2:=without_of_not_mem r j n1
   unfold without at e2
   rw[if_neg (by simp[e]),←e,e2]
   exact hr
  |false=>
   have e:¬j=k:=hj▸HO q
   rw[if_pos (by simp[e])]
   exact .mk (j,u) _ h0 ih
inductive ou(W:Wd)(x:aQ)(c:Act)(st:aq)(a:Cf)(nm:Str)(kvs:List (Int×V))(d:aQ):Prop
 |mk (o:km) (kv:List (Int×ao)) (g:a.s.heap.get? d=ag o) (D:o.IsDictOf (intKind W.prog W.w) kv) (k:eO W a.fz x kvs kv) (z:(d==sysModules)=af) (L:d≠c.L)
  (up:∀(s' :ay) o' yP te,pL d a.s.heap s'.heap→s'.heap.get? d=ag o' →o'.IsDictOf (intKind W.prog W.w) yP→eO W a.fz x te yP→Rel W x c (ni nm te st) (a.to s')):ou W x c st a nm kvs d
theorem qY{e:aw}{q:Str×List (Int×V)}(hG:cb W X G)(h:keysAt G e st=ag q)(R:Rl W κ st a)(K:∀d t,ou W κ.x κ.c st a q.1 q.2 d→Q (.ref d) {a.s with toks:=t}):aA W.M κ.A (eval e κ.env) Q E a.s:=by
 refine aD h λp hp h=>bK h λhs h=>aD h λr hr h=>aD h λl hl h=>aD hl λy hy hl=>?_
 obtain⟨np,ap,e1⟩:=xx hp
 obtain⟨h1,h2⟩:=Ac hy
 rw[Ic hl]at h1
 obtain⟨f,d,o,iD,c,cs,hm,k,CF⟩:=Bz (C:=r.1) (fs:=r.2) hr h1 rfl R
 rw[e1]
 refine Ii hG hs hr h2 R c (K d _ ?_)
 obtain⟨m,ox,es,n,F,I,e2,g,hL,up⟩:=c
 generalize hd:jV d=v at k
 obtain⟨d',o',kv,CW,D,kk,z⟩:=(k:ow _ _ _ _ _ _)
 cases hd
 rw[so h]
 refine⟨o',kv,CF _ CW,D,kk,z,hL,λs' o' yP te yy ho hd hk=>?_⟩
 have:=up (.keys te) o' s' yy ho λcs hc=>ow.mk d o' yP hc hd hk z
 have e:ni p.2 te st=⟨st.loc,ag (r.1,di p.2 (.keys te) r.2),st.free⟩:=by
  show(⟨st.loc,st.self.map _,st.free⟩:aq)=_
  rw[hr];rfl
 rw[e];exact this
theorem ou.dict{nm:Str}{kvs:List (Int×V)}{d:aQ}:ou W x c st a nm kvs d→∃kv,a.s.heap.DictOf (intKind W.prog W.w) d kv∧eO W a.fz x kvs kv∧(d==sysModules)=af
 |.mk o kv g D k z _ _=>⟨kv,Heap.dictOf_iff.mpr ⟨o,g,D⟩,k,z⟩
theorem J6{nm:Str}{kvs:List (Int×V)}{d:aQ}{j:Int}{y:V}{vi:ao}{value slice:aw}{t:Nat}(r:ou W κ.x κ.c st a nm kvs d)(hl:jv j kvs=ag y)(hs:∀o v,subscripted slice af o v=operate [o,v] (getItem o v))(K:∀v,VR W a.fz κ.x y v→Q v {a.s with toks:=t+1})(hi:bL j vi):
 aA W.M κ.A (subscriptTail value slice (.ref d) vi) Q E {a.s with toks:=t}:=by
 obtain⟨kv,hD,k,z⟩:=r.dict
 have:=k.look (k:=j)
 rw[hl]at this
 obtain⟨u,e1,e2⟩:=this
 obtain⟨tk⟩:=hi
 exact tail_any (s:={a.s with toks:=t}) (Heap.DictOf.typeIs hD) slot_dict_getitem.lookup (wpAny_getItem_of (intKind_is _ _ j tk) (Heap.DictOf.mapOf hD) e1 (K u e2)) (hs _ _)
theorem Hv{cst:Const}{u:Nat}{pos:Pos}{y:V}(h:constOf cst=ag y)(K:KV W fz x s y Q):aA W.M A (eval (.Constant cst u pos) c.env) Q E s:=by
 cases cst with
 |none=>rw[so h]at K;exact wpAny_Constant_none (K _ s.toks rfl)
 |bool b=>rw[so h]at K;exact wpAny_Constant_bool (K _ s.toks rfl)
 |int i=>rw[so h]at K;exact wpAny_Constant_int (K _ _ (bL.mk _))
 |str z=>exact bK h λhl h=>by rw[so h]at K;exact wpAny_Constant_str (K (.str z s.toks) (s.toks+1) (cj.mk (s:=z.cps.toList) (bw hl) s.toks))
 |_=>exact no h
theorem dM{b:Bool}(h:(!b)=ae):b=af:=by cases b<;>first|rfl|exact nt h
theorem xJ{ops:List CmpOp}{rs:List aw}{q:CmpOp×aw}(h:qr ops rs=ag q):ops=[q.1]∧rs=[q.2]∧behindInMarks q.1 q.2=af:=aD h λop ho h=>aD h λr hr h=>bK h λhb h=>by rw[so h];exact⟨dN ho,dN hr,dM hb⟩
theorem Ek{e:aw}(h:pH e=ae)(o v:ao):subscripted e af o v=operate [o,v] (getItem o v):=by cases e<;>first|rfl|exact nt h
abbrev GG(W:Wd)(X:bU)(G:aX)(n:Nat):Prop:=∀{e:aw}{st:aq}{y:V},qE G n e st=ag y→∀(κ:aW W G){a:Cf}{Q:ao→ay→Prop}{E:ao→ay→Prop},Rl W κ st a→KV W a.fz κ.x a.s y Q→aA W.M κ.A (eval e κ.env) Q E a.s
theorem KV.at{y:V}{t:Nat}(K:KV W fz x s y Q):KV W fz x {s with toks:=t} y Q:=λv t' hv=>K v t' hv
theorem aeG{y:V}{a:Cf}(K:KV W a.fz x a.s y Q):∀d v,d=a→VR W d.fz x y v→Q v d.s:=λd v e hv=>by rw[e]at hv⊢;exact K v a.s.toks hv
theorem aa7{n:Nat}(ih:GG W X G n)(hG:cb W X G){o:aw}{nm:Str}{pos:Pos}{y:V}(hb:baseOk o=ae)(h:(ob (qE G n o st) λv=>uG G v nm st)=ag y)(R:Rl W κ st a)(K:KV W a.fz κ.x a.s y Q):aA W.M κ.A (eval (.Attribute o nm pos) κ.env) Q E a.s:=
 aD h λv hv h=>BU hb (ih hv κ R λva t m7=>by
  refine aD h λq hq h=>?_
  obtain⟨d,m,ox,es,n,F,I,k,z⟩:=Ij (a:=a) (κ:=κ) hq m7 R
  refine dn h (λf hf h=>aD h λw hw h=>bK h λh2 h=>?_) λhn h=>?_
  ·obtain⟨u,e,hu⟩:=k w (by rw[hf,kc hw])
   exact ym (s:={a.s with toks:=t}) κ.hA.bX F I (hG.attrs _ (o_ h2)) e hu.handed (K u (t+1) (so h▸hu))
  ·exact IX (s:={a.s with toks:=t}) (x:=κ.x) κ.hA.bX F I (hG.jI _ (DV h)) (z hn) λu hu=>K u (t+1) (hu.up (Sub.nil _)))
theorem rD(hG:cb W X G)(n:Nat):GG W X G n:=by
 induction n with
 |zero=>intro e st y h;exact no h
 |succ n ih=>
  intro e st y h κ a Q E R K
  cases e with
  |Constant cst u pos=>exact Hv h K
  |Name id pos=>exact aD h λz hz h=>tB (tn hz).1 (by rw[(tn hz).2,kc h]) R λv hv=>K v a.s.toks hv
  |Attribute o nm pos=>exact bK h λhb h=>aa7 ih hG hb h R K
  |Subscript o i pos=>
   exact bK h λDc h=>aD h λq hq h=>aD h λv hv h=>aD h λj hj h=>Subscript_ (qY hG hq R λd t r=>ih hv κ (R.tok t) λvi t' qR=>J6 (a:=a) r h (Ek Dc) (λu hu=>K u (t' +1) hu) (dF hj qR))
  |Compare l ops rs pos=>
   refine aD h λq hq h=>aD h λva ha h=>aD h λvb hb h=>?_
   obtain⟨e1,e2,e3⟩:=xJ hq
   rw[e1,e2]
   exact wpAny_Compare1 (ih ha κ R λva t m7=>ih hb κ (R.tok t) λvb t' Dn=>sm (s:={a.s with toks:=t' }) (R.fh κ.hA) (mu κ.room) h m7 Dn λv wW hv=>K v wW hv) e3
  |_=>exact no h
end
inductive qc{W:Wd}{G:aX}(κ:aW W G)(l:List V)(st' :aq)(d:Cf):ao→Prop
 |mk (p:aQ) (vs:Array ao) (n:Nat) (k:aS W d.fz κ.x l vs.toList) (R:Rl W κ st' (d.own (p,listOf vs n) d.s)):qc κ l st' d (.ref p)
section
variable(W:Wd)(X:bU)(G:aX)(n:Nat)
def fA:Po W G (List V) ao:=qc
noncomputable def pA:Av W G (Option V) ao:=⟨λκ y a v=>PR W a.fz κ.x y v,λ_ _ _ _ _ l h=>h.up l.fz⟩
noncomputable def vR(pos:Pos)(aE:List Keyword)(env:Env):List Str:=(backToKw pos (keywordEach aE env)).filterMap (·.1)
noncomputable def kA(pos:Pos)(aE:List Keyword):Av W G (List (Str×V)) (List ao):=⟨λκ y a v=>dW W a.fz κ.x y ((vR pos aE κ.env).zip v),λ_ _ _ _ _ l h=>h.up l.fz⟩
variable(J:cD W G)(x:V→aq→au)(r:R)(st:aq)
def RE(e:aw)(k:V→aq→au):Prop:=Rz X J ae (λκ _=>aA W.M κ.A (eval e κ.env)) st vA.p k x r
def RF(e:aw)(k:List V→aq→au):Prop:=Rz X J ae (λκ _=>aA W.M κ.A (eval e κ.env)) st (fA W G) k x r
def RP(e:Option aw)(k:Option V→aq→au):Prop:=Rz X J ae (λκ _=>aA W.M κ.A (evalPart e κ.env)) st (pA W G).p k x r
def RA(pos:Pos)(es:List aw)(k:List V→aq→au):Prop:=Rz X J ae (λκ _=>aA W.M κ.A (spliced (backTo pos (starEach es κ.env)))) st sA.p k x r
def RK(pos:Pos)(aE:List Keyword)(k:List (Str×V)→aq→au):Prop:=Rz X J ae (λκ _=>aA W.M κ.A (evalAll ((backToKw pos (keywordEach aE κ.env)).map (·.2)))) st (kA W G pos aE).p k x r
def RT(e:aw)(k:Bool→aq→au):Prop:=Rz X J ae (λκ _=>aA W.M κ.A (isTrue e κ.env (eval e κ.env))) st (eA Bool).p k x r
def RB(op:BoolOp)(es:List aw)(k:Bool→aq→au):Prop:=Rz X J ae (λκ _=>aA W.M κ.A (allTrue op es κ.env)) st (eA Bool).p k x r
def eG:Prop:=∀{e st k x r},Gv (bc G n e st k x) r→∀{J:cD W G},RE W X G J x r st e k
def uy:Prop:=∀{e st k x r},Gv (kU G n e st k x) r→∀{J:cD W G},RF W X G J x r st e k
def uz:Prop:=∀{e st k x r},Gv (mR G n e st k x) r→∀{J:cD W G},RP W X G J x r st e k
def xm:Prop:=∀{op es st k x r},Gv (xT G n op es st k x) r→∀{J:cD W G} pos,RE W X G J x r st (.BoolOp op es pos) k
def je:Prop:=∀{es st k x r},j2 es=ae→Gv (dS G n es st k x) r→∀{J:cD W G} pos,RA W X G J x r st pos es k
def lN:Prop:=∀{aE st k x r},Gv (kW G n aE st k x) r→∀{J:cD W G} pos,RK W X G J x r st pos aE k
def oE:Prop:=∀{e st k x r},Gv (iV G n e st k x) r→∀{J:cD W G},RT W X G J x r st e k
def xl:Prop:=∀{op es st k x r},Gv (qy G n op es st k x) r→∀{J:cD W G},RB W X G J x r st op es k
end
section
variable{W:Wd}{X:bU}{G:aX}{κ:aW W G}{a:Cf}{st st' :aq}{Q:ao→ay→Prop}{E:ao→ay→Prop}{n:Nat}{J:cD W G}{k:V→aq→au}{x:V→aq→au}{rr:R}
abbrev eT(W:Wd)(G:aX)(J:cD W G)(e:aw):(κ:aW W G)→J.ι→Tr ao:=λκ _=>aA W.M κ.A (eval e κ.env)
theorem kv{y:V}{b:Bool}(K:∀d v,Le b a d→(vA (W:=W) (G:=G)).p κ y st' d v→Q v d.s):∀d v,Le ae a d→VR W d.fz κ.x y v→Rl W κ st' d→Q v d.s:=λd v l h R=>K d v l.weak ⟨h,R⟩
theorem lh{α:Type}{Q:α→ay→Prop}{y:α}{b:Bool}(R:Rl W κ st a)(K:∀d v,Le b a d→(eA (W:=W) (G:=G) α).p κ y st d v→Q v d.s)(t:Nat):Q y {a.s with toks:=t}:=K (a.to {a.s with toks:=t}) y (Le.to (.mk _ _)) ⟨rfl,R.tok t⟩
theorem Kr{l m:List V}(hl:l.length+m.length≤sizeLine)(R:Rl W κ st a)(K:∀p vs,aS W a.fz κ.x (l++m) vs.toList→Q (.ref a.s.heap.objs.size) (pushS a.s (cM vs p))):∀{va vb:ao},cf W a.fz cM (aS W a.fz κ.x l) va→cf W a.fz cM (aS W a.fz κ.x m) vb→aA W.M κ.A (binaryOp .Add va vb) Q E a.s
 |_,_,.mk _ vs _ h1 k1,.mk _ us _ h2 k2=>P.add_list (R.get κ.hA.bX h1) (R.get κ.hA.bX h2) (K 0 (vs++us) (by rw[Array.toList_append];exact k1.append k2)) (by rw[k1.size,k2.size];exact hl)
theorem Kp{op:mj}{b c:V}{l:List V}(h:zb op b c=ag l):∃p q,op=.Add∧b.l?=ag p∧c.l?=ag q∧l=p++q∧p.length+q.length≤sizeLine:=
 bK h λho h=>aD h λp hp h=>aD h λq hq h=>bK h λhl h=>⟨p,q,Dw ho,hp,hq,so h,yS (n:=aZ) hl rfl⟩
theorem Kq{op:mj}{b c:V}{q:Bool×List V}(h:lstP op b c=ag q)(hc:q.1=ae):zb op b c=ag q.2:=bK h λho h=>aD h λx hx h=>aD h λy hy h=>by
 cases so h
 exact ez ho (fC hx (fC hy (ez hc rfl)))
theorem Nl{op:mj}{b c:V}{q:Bool×List Nat}(h:FE op b c=ag q)(hc:q.1=ae):kQ op b c=ag (.str q.2):=bK h λho h=>aD h λx hx h=>aD h λy hy h=>by
 cases so h
 rw[Dw ho,jc hx,jc hy]
 exact ez hc rfl
theorem X8{op:mj}{b c:V}{l:List V}{va vb:ao}(h:zb op b c=ag l)(ha:VR W a.fz κ.x b va)(hb:VR W a.fz κ.x c vb)(R:Rl W κ st a)(K:Kv κ st (.lst l) a Q):aA W.M κ.A (binaryOp op va vb) Q E a.s:=by
 obtain⟨p,q,rfl,hp,hq,rfl,hl⟩:=Kp h
 exact Kr hl R (λn vs hv=>K (a.fr (a.s.heap.objs.size,cM vs n) _) _ (Le.fr (.mk _ _)) (cf.mk _ vs n (.here _ _) (hv.up (Sub.cons _ _))) (R.push rfl)) (jS hp ha) (jS hq hb)
theorem X' {op:mj}{b c:V}{l:List V}{va vb:ao}(h:zb op b c=ag l)(ha:VR W a.fz κ.x b va)(hb:VR W a.fz κ.x c vb)(R:Rl W κ st a)(K:∀d v,Le ae a d→fA W G κ l st d v→Q v d.s):aA W.M κ.A (binaryOp op va vb) Q E a.s:=by
 obtain⟨p,q,rfl,hp,hq,rfl,hl⟩:=Kp h
 exact Kr hl R (λn vs hv=>K (a.to (pushS a.s (cM vs n))) _ (Le.to (.mk _ _)) (qc.mk _ vs n hv (R.tO rfl))) (jS hp ha) (jS hq hb)
inductive r_(W:Wd)(X:bU)(G:aX){α β:Type}(op:ao→ao→aW W G→Tr α)(A:Po W G β α)(b c:V)(st:aq)(k:β→aq→au)(r:R):Prop
 |mk (y:β) (h:Gv (k y st) r) (H:∀(κ:aW W G) a va vb Q E,VR W a.fz κ.x b va→VR W a.fz κ.x c vb→Rl W κ st a→(∀d v,Le ae a d→A κ y st d v→Q v d.s)→op va vb κ Q E a.s):r_ W X G op A b c st k r
theorem Rz.two{α β:Type}{T:(κ:aW W G)→J.ι→Tr α}{oU oW:aw}{op:ao→ao→aW W G→Tr α}{A:Po W G β α}{k:β→aq→au}{k' :V→V→aq→au}
 (L:∀κ i Q E s,aA W.M κ.A (eval oU κ.env) (λa cu=>aA W.M κ.A (eval oW κ.env) (λb bV=>op a b κ Q E bV) E cu) E s→T κ i Q E s) (bQ:eG W X G n) (h:Gv (bc G n oU st (λa st=>bc G n oW st (k' a) x) x) rr)
 (l:∀b c st',Gv (k' b c st') rr→r_ W X G op A b c st' k rr):Rz X J ae T st A k x rr:=
 Rz.as L (Rz.bind (bQ h) λb bj h=>Rz.bind (bQ h) λc dc h=>by
  obtain⟨y,h,H⟩:=l b c dc h
  exact Rz.leaf y dc h λκ a i Q E hi R K=>H κ a _ _ Q E hi.1.2 hi.2 R K)
theorem P7{op:mj}{b c:V}(h:Gv (DF op b c (λv=>k v st)) rr):r_ W X G (λva vb κ=>aA W.M κ.A (binaryOp op va vb)) vA.p b c st k rr:=
 xe h (λ_ h=>a_ h λq hq h=>bF h λhc h=>⟨.str q.2,h,λκ a va vb Q E ha hb R K=>xA (Nl hq hc) ha hb (Kv.kv (kv K) R)⟩) λ_ h=>
 eC h (λq hq h=>bF h λhc h=>⟨.lst q.2,h,λκ a va vb Q E ha hb R K=>X8 (Kq hq hc) ha hb R (kv K)⟩) λ_ h=>
 eC h (λq hq h=>bF h λhc h=>⟨.str q.2,h,λκ a va vb Q E ha hb R K=>xA (Nl hq hc) ha hb (Kv.kv (kv K) R)⟩) λ_ h=>
 eC h (λv hv h=>⟨v,h,λκ a va vb Q E ha hb R K=>xA hv ha hb (Kv.kv (kv K) R)⟩) λ_ h=>
 a_ h λv hv h=>⟨v,h,λκ a va vb Q E ha hb R K=>TK (R.fh κ.hA) hv ha hb (Kv.kv (kv K) R)⟩
theorem acP(bQ:eG W X G n){l r:aw}{op:mj}{pos:Pos}(h:Gv (bc G n l st (λa st=>bc G n r st (λb st=>DF op a b λv=>k v st) x) x) rr):RE W X G J x rr st (.BinOp l op r pos) k:=
 Rz.two (λκ i Q E s=>wpAny_BinOp) bQ h λb c st' h=>P7 h
end
section
variable{W:Wd}{X:bU}{G:aX}{κ:aW W G}{a:Cf}{st st' :aq}{Q:ao→ay→Prop}{E:ao→ay→Prop}{n:Nat}{J:cD W G}{k:V→aq→au}{x:V→aq→au}{rr:R}
theorem Rz.pre{b:Bool}{α β:Type}{T T' :(κ:aW W G)→J.ι→Tr α}{C:Po W G β α}{k:β→aq→au}(L:∀κ a i Q E,J.I κ a i→Rl W κ st a→(∀d,Le ae a d→Rl W κ st d→T κ i Q E d.s)→T' κ i Q E a.s)(H:Rz X J b T st C k x rr):Rz X J b T' st C k x rr:=by
 rcases H with⟨y,st',H,h⟩|⟨y,st',H,h⟩
 ·exact .ok y st' (λκ a i hi c Q E lc R q=>L κ c i Q E (J.up κ a c i lc hi) R λd ld R' =>H κ a i hi d Q E (lc.trans ld) R' λd' v' l' =>q d' v' (ld.weak.trans l')) h
 ·exact .ex y st' (λκ a i hi c Q E lc R q=>L κ c i Q E (J.up κ a c i lc hi) R λd ld R' =>H κ a i hi d Q E (lc.trans ld) R' λev s' h=>q ev s' (h.up ld)) h
theorem Q8{op:CmpOp}{b c:V}(h:Gv (Ob (gN op b c) λv=>k v st) rr):r_ W X G (λva vb κ=>aA W.M κ.A (compareOp op va vb)) vA.p b c st k rr:=
 a_ h λv hv h=>⟨v,h,λκ a va vb Q E ha hb R K=>sm (R.fh κ.hA) (mu κ.room) hv ha hb (Kv.kv (kv K) R)⟩
abbrev ads(W:Wd)(op:CmpOp)(va vb:ao)(κ:aW W G):Tr Bool:=λQ E s=>aA W.M κ.A (compareOp op va vb) (λc s' =>aA W.M κ.A (truthy c) Q E s') E s
theorem adt{op:CmpOp}{b c:V}{k:Bool→aq→au}(h:Gv (Ob (ob (gN op b c) V.b?) λv=>k v st) rr):r_ W X G (ads W op) (eA Bool).p b c st k rr:=
 a_ h λv hv h=>aD hv λy hy hv=>⟨v,h,λκ a va vb Q E ha hb R K=>sm (R.fh κ.hA) (mu κ.room) hy ha hb λu t hu=>by
  rw[j9 hv]at hu
  rw[(hu:u=_)]
  exact wpAny_truthy_bool (lh R K t)⟩
theorem JM(hG:cb W X G){l r:aw}{p:Str×List (Int×V)}{i:Int}{v:V}(hk:keysAt G r st=ag p)(hv:qE G 20 l st=ag v)(hi:v.i?=ag i)(R:Rl W κ st a)(K:∀t,Q (.bool (oe (jv i p.2) (λ_=>ae) af)) {a.s with toks:=t}):
 aA W.M κ.A (eval l κ.env) (λa cu=>aA W.M κ.A (eval r κ.env) (λb bV=>aA W.M κ.A (compareOp .In a b) Q E bV) E cu) E a.s:=by
 refine rD hG _ hv κ R λva t m7=>qY hG hk (R.tok t) λd t' rk=>?_
 obtain⟨tk⟩:=dF hi m7
 obtain⟨kv,hD,vC,z⟩:=rk.dict
 refine wpAny_in_of (s:={a.s with toks:=t' }) (intKind_is _ _ i tk) z (Heap.DictOf.mapOf hD) ?_
 have:=vC.look (k:=i)
 revert this K
 cases jv i p.2 with
 |some y=>rintro K ⟨v,e,_⟩;rw[e];exact K _
 |none=>intro K e;rw[(e:_=bg)];exact K _
theorem JJ{op:CmpOp}{v:Option V}{kvs:List (Int×V)}{k:Bool→au}(h:Gv (vJ op v kvs k) rr):∃y i,op=.In∧v=ag y∧y.i?=ag i∧Gv (k (oe (jv i kvs) (λ_=>ae) af)) rr:=by
 cases op<;>first|exact No h|exact a_ h λi hi h=>aD hi λy hy hi=>⟨y,i,rfl,hy,hi,h⟩
theorem acS(hG:cb W X G)(bQ:eG W X G n){l:aw}{ops:List CmpOp}{rs:List aw}{q:CmpOp×aw}{pos:Pos}(hq:qr ops rs=ag q)
 (h:Gv (Oe (keysAt G q.2 st) (λp=>vJ q.1 (qE G 20 l st) p.2 λb=>k (.bool b) st) (bc G n l st (λa st=>bc G n q.2 st (λb st=>Ob (gN q.1 a b) λv=>k v st) x) x)) rr):RE W X G J x rr st (.Compare l ops rs pos) k:=by
 obtain⟨e1,e2,e3⟩:=xJ hq
 rw[e1,e2]
 refine eC h (λp hp h=>?_) λ_ h=>Rz.two (λκ i Q E s h=>wpAny_Compare1 h e3) bQ h λb c st' h=>Q8 h
 obtain⟨y,i,eo,hy,hi,h⟩:=JJ h
 exact Rz.leaf _ st h λκ a j Q E _ R K=>wpAny_Compare1 (eo▸JM hG hp hy hi R λt=>kv K (a.to {a.s with toks:=t}) _ (Le.to (.mk _ _)) (rfl:VR _ _ _ (.bool _) _) (R.tok t)) e3
theorem ac3(hG:cb W X G)(bQ:eG W X G n){l:aw}{ops:List CmpOp}{rs:List aw}{q:CmpOp×aw}{pos:Pos}{k:Bool→aq→au}(hq:qr ops rs=ag q)
 (h:Gv (Oe (keysAt G q.2 st) (λp=>vJ q.1 (qE G 20 l st) p.2 λb=>k b st) (bc G n l st (λa st=>bc G n q.2 st (λb st=>Ob (ob (gN q.1 a b) V.b?) λv=>k v st) x) x)) rr):RT W X G J x rr st (.Compare l ops rs pos) k:=by
 obtain⟨e1,e2,e3⟩:=xJ hq
 rw[e1,e2]
 refine eC h (λp hp h=>?_) λ_ h=>Rz.two (λκ i Q E s h=>wpAny_isTrue_Compare1 h e3) bQ h λb c st' h=>adt h
 obtain⟨y,i,eo,hy,hi,h⟩:=JJ h
 exact Rz.leaf _ st h λκ a j Q E _ R K=>wpAny_isTrue_Compare1 (eo▸JM hG hp hy hi R λt=>wpAny_truthy_bool (lh R K t)) e3
theorem Hr{ops:List CmpOp}{rs:List aw}{q:(CmpOp×CmpOp)×aw×aw}(h:uQ ops rs=ag q):ops=[q.1.1,q.1.2]∧rs=[q.2.1,q.2.2]∧lastMarks ops rs=af:=aD h λo ho h=>aD h λr hr h=>bK h λhb h=>by rw[so h];exact⟨oa ho,oa hr,dM (aF hb).2⟩
theorem link{A:eK}{op:CmpOp}{b c y:V}{d:Bool}{va vb:ao}{Q' :Bool→ao→ay→Prop}(hu:A.units+8<cLine)(R:Rl W κ st a)(hy:gN op b c=ag y)(hd:y.b?=ag d)(ha:VR W a.fz κ.x b va)(hb:VR W a.fz κ.x c vb)(K:∀t,Q' d (.bool d) {a.s with toks:=t}):
 aA W.M A (compareOp op va vb) (λc s' =>aA W.M A (truthy c) (λt gy=>Q' t c gy) E s') E a.s:=
 sm (R.fh κ.hA) hu hy ha hb λu t hu=>by
  rw[j9 hd]at hu
  rw[(hu:u=_)]
  exact wpAny_truthy_bool (K t)
theorem acT(bQ:eG W X G n){l:aw}{ops:List CmpOp}{rs:List aw}{q:(CmpOp×CmpOp)×aw×aw}{pos:Pos}(hq:uQ ops rs=ag q)
 (h:Gv (bc G n l st (λa st=>bc G n q.2.1 st (λb st=>Ob (ob (gN q.1.1 a b) V.b?) λd=>Br d (bc G n q.2.2 st (λc st=>Ob (ob (gN q.1.2 b c) V.b?) λd=>k (.bool d) st) x) (k (.bool af) st)) x) x) rr):RE W X G J x rr st (.Compare l ops rs pos) k:=by
 obtain⟨e1,e2,e3⟩:=Hr hq
 rw[e1,e2]at e3⊢
 refine Rz.as (λκ i Q E s h=>Compare_chain h e3) (Rz.bind (bQ h) λb bj h=>Rz.as (λκ i Q E s=>chain_link) (Rz.bind (bQ h) λc dc h=>a_ h λd hd h=>aD hd λy hy hd=>mB h (λed h=>?_) λed h=>?_))
 ·exact Rz.pre (J:=(J.and vA b).and vA c) (T:=λκ i=>aA W.M κ.A (compareChain pos i.2 [q.1.2] [eval q.2.2 κ.env])) (λκ a i Q E hi R K=>link (mu κ.room) R hy hd hi.1.2 hi.2 (Q' :=λt c s=>if t then _ else Q c s) λt=>by rw[ed,if_pos rfl];exact K _ (Le.to (.mk _ _)) (R.tok t)) (Rz.as (λκ i Q E s=>chain_last) (Rz.bind (bQ h) λe dG h=>a_ h λf hf h=>aD hf λz hz hf=>Rz.leaf (.bool f) dG h λκ a i Q E hi R K=>sm (R.fh κ.hA) (mu κ.room) (j9 hf▸hz) hi.1.2 hi.2 (Kv.kv (kv K) R)))
 ·exact Rz.leaf (.bool af) dc h λκ a i Q E hi R K=>link (mu κ.room) R hy hd hi.1.2 hi.2 (Q' :=λt c s=>if t then _ else Q c s) λt=>by rw[ed,if_neg jW];exact kv K (a.to _) _ (Le.to (.mk _ _)) (rfl:VR _ _ _ (.bool _) _) (R.tok t)
theorem ac4(bQ:eG W X G n){l:aw}{ops:List CmpOp}{rs:List aw}{q:(CmpOp×CmpOp)×aw×aw}{pos:Pos}{k:Bool→aq→au}(hq:uQ ops rs=ag q)
 (h:Gv (bc G n l st (λa st=>bc G n q.2.1 st (λb st=>Ob (ob (gN q.1.1 a b) V.b?) λd=>Br d (bc G n q.2.2 st (λc st=>Ob (ob (gN q.1.2 b c) V.b?) λd=>k d st) x) (k af st)) x) x) rr):RT W X G J x rr st (.Compare l ops rs pos) k:=by
 obtain⟨e1,e2,e3⟩:=Hr hq
 rw[e1,e2]at e3⊢
 refine Rz.as (λκ i Q E s h=>isTrue_chain h e3) (Rz.bind (bQ h) λb bj h=>Rz.as (λκ i Q E s=>test_link) (Rz.bind (bQ h) λc dc h=>a_ h λd hd h=>aD hd λy hy hd=>mB h (λed h=>?_) λed h=>?_))
 ·exact Rz.pre (J:=(J.and vA b).and vA c) (T:=λκ i=>aA W.M κ.A (testChain pos i.2 [q.1.2] [eval q.2.2 κ.env])) (λκ a i Q E hi R K=>link (mu κ.room) R hy hd hi.1.2 hi.2 (Q' :=λt c s=>if t then _ else Q af s) λt=>by rw[ed,if_pos rfl];exact K _ (Le.to (.mk _ _)) (R.tok t)) (Rz.as (λκ i Q E s=>test_last) (Rz.bind (bQ h) λe dG h=>a_ h λf hf h=>aD hf λz hz hf=>Rz.leaf f dG h λκ a i Q E hi R K=>link (mu κ.room) R hz hf hi.1.2 hi.2 (Q' :=λt c s=>Q t s) (lh R K)))
 ·exact Rz.leaf af dc h λκ a i Q E hi R K=>link (mu κ.room) R hy hd hi.1.2 hi.2 (Q' :=λt c s=>if t then _ else Q af s) λt=>by rw[ed,if_neg jW];exact lh R K t
end
section
variable{W:Wd}{X:bU}{G:aX}{κ:aW W G}{a:Cf}{st st' :aq}{Q:ao→ay→Prop}{E:ao→ay→Prop}{n:Nat}{J:cD W G}{k:V→aq→au}{x:V→aq→au}{rr:R}
theorem Y8{b:Bool}(h:(!b)=af):b=ae:=by cases b<;>first|rfl|exact nt h.symm
theorem acV{c:Const}{u:Nat}{pos:Pos}(h:Gv (Ob (constOf c) λy=>k y st) rr):RE W X G J x rr st (.Constant c u pos) k:=
 a_ h λy hy h=>Rz.leaf y st h λκ a i Q E hi R K=>Hv (c:=κ.c) hy (Kv.kv (kv K) R)
theorem acY(hG:cb W X G){id:Str}{pos:Pos}(h:Gv (KR G id st k) rr):RE W X G J x rr st (.Name id pos) k:=
 eC h (λy hy h=>bF h λhk h=>eC h (λv hv h=>Rz.leaf v st h λκ a i Q E hi R K=>tB hk (kc hv▸hy) R λu hu=>kv K a u (Le.refl a) hu R)
  λ_ h=>a_ h λl hl h=>Rz.leaf _ _ h λκ a i Q E hi R K=>YH hk (qG hl▸hy) R (kv K)) λ_ h=>bF h λhk h=>a_ h λy hy h=>
   Rz.leaf y st h λκ a i Q E hi R K=>YG (hG.jq _ (Kj hy)) hk R λu hu=>kv K a u (Le.refl a) hu R
theorem acO(hG:cb W X G)(bQ:eG W X G n){o:aw}{nm:Str}{pos:Pos}(h:Gv (Tt (baseOk o) (bc G n o st (λv st=>Ob (uG G v nm st) λy=>k y st) x)) rr):RE W X G J x rr st (.Attribute o nm pos) k:=
 bF h λhb h=>Rz.as (λκ i Q E s=>BU hb) (Rz.bind (bQ h) λv bj h=>a_ h λy hy h=>Rz.leaf y bj h λκ a i Q E hi R K=>PU hG hy hi.2 R (kv K))
theorem ac0(bQ:eG W X G n){e:aw}{pos:Pos}(h:Gv (bc G n e st (λa st=>Ob (truth a) λb=>k (.bool (!b)) st) x) rr):RE W X G J x rr st (.UnaryOp .Not e pos) k:=
 Rz.as (λκ i Q E s=>wpAny_UnaryOp) (Rz.bind (bQ h) λv bj h=>a_ h λb hb h=>Rz.leaf _ bj h λκ a i Q E hi R K=>not_of (tZ (R.fh κ.hA) hb hi.2 λt=>kv K (a.to _) _ (Le.to (.mk _ t)) (rfl:VR _ _ _ (.bool _) _) (R.tok t)))
theorem YL{i:Int}(K:Kv κ st (.int (-i)) a Q)(R:Rl W κ st a):∀{v:ao},bL i v→aA W.M κ.A (unaryOp .USub v) Q E a.s
 |_,.mk _=>PySem.P.neg_int (K (a.to _) _ (Le.to (.mk _ _)) (bL.mk _) (R.tok _))
theorem acZ(bQ:eG W X G n){e:aw}{pos:Pos}(h:Gv (bc G n e st (λa st=>Ob a.i? λi=>k (.int (-i)) st) x) rr):RE W X G J x rr st (.UnaryOp .USub e pos) k:=
 Rz.as (λκ i Q E s=>wpAny_UnaryOp) (Rz.bind (bQ h) λv bj h=>a_ h λj hj h=>Rz.leaf _ bj h λκ a i Q E hi R K=>YL (kv K) R (dF hj hi.2))
theorem Rz.JG{β:Type}{B:Po W G β ao}{k:β→aq→au}{t oU oW:aw}{k₁ k₂:aq→au}(ke:oE W X G n)(h:Gv (iV G n t st (λc st=>Br c (k₁ st) (k₂ st)) x) rr){T:(κ:aW W G)→J.ι→Tr ao}
 (L:∀κ i Q E s,aA W.M κ.A (isTrue t κ.env (eval t κ.env)) (λb cu=>if b then aA W.M κ.A (eval oU κ.env) Q E cu else aA W.M κ.A (eval oW κ.env) Q E cu) E s→T κ i Q E s)
 (h1:∀st',Gv (k₁ st') rr→∀{J:cD W G},Rz X J ae (λκ _=>aA W.M κ.A (eval oU κ.env)) st' B k x rr) (h2:∀st',Gv (k₂ st') rr→∀{J:cD W G},Rz X J ae (λκ _=>aA W.M κ.A (eval oW κ.env)) st' B k x rr):Rz X J ae T st B k x rr:=
 Rz.as L (Rz.bind (ke h) λb bj h=>mB h
  (λeb h=>Rz.pre (λκ a i Q E hi R K=>by
   have e:i.2=ae:=(hi.2:i.2=b).trans eb
   rw[e,if_pos rfl];exact K a (Le.refl a) R) (h1 bj h))
  λeb h=>Rz.pre (λκ a i Q E hi R K=>by
   have e:i.2=af:=(hi.2:i.2=b).trans eb
   rw[e,if_neg jW];exact K a (Le.refl a) R) (h2 bj h))
theorem step_if(bQ:eG W X G n)(ke:oE W X G n){t b o:aw}{pos:Pos}(h:Gv (iV G n t st (λc st=>Br c (bc G n b st k x) (bc G n o st k x)) x) rr):RE W X G J x rr st (.IfExp t b o pos) k:=
 Rz.JG ke h (λκ i Q E s=>wpAny_IfExp) (λst' h=>bQ h) λst' h=>bQ h
theorem ab7{e:aw}{q:Option aw×Option aw}(h:sliceOf e=ag q):∃p,e=.Slice q.1 q.2 bg p:=by
 cases e with
 |Slice lo hi stp p=>exact dn h (λ_ _ h=>no h) λhn h=>⟨p,by rw[so h,hn]⟩
 |_=>exact no h
theorem W9{a i:V}{k:V→au}{P:Prop}(h:Gv (yL a i k) rr)(K:∀v,bx a i=ag v→Gv (k v) rr→P):P:=eC h (λs hs h=>a_ h λj hj h=>bF h λh1 h=>bF h λh2 h=>K _ (by
 rw[jc hs,iE hj]
 exact ez h1 (ez h2 rfl)) h) λ_ h=>a_ h K
theorem Xb{o i:aw}{b c:V}(hs:pH i=ae)(h:Gv (yL b c λv=>k v st) rr):r_ W X G (λva vb κ=>aA W.M κ.A (subscriptTail o i va vb)) vA.p b c st k rr:=
 W9 h λv hv h=>⟨v,h,λκ a va vb Q E ha hb R K=>J3 (R.fh κ.hA) hv ha hb (Kv.kv (kv K) R) (Ek hs)⟩
theorem acW(bQ:eG W X G n)(s_:uz W X G n){o:aw}{lo hi:Option aw}{p pos:Pos}(h:Gv (bc G n o st (λa st=>mR G n lo st (λi st=>mR G n hi st (λj st=>Ob (fy (isName o) a i j) λv=>k v st) x) x) x) rr):
 RE W X G J x rr st (.Subscript o (.Slice lo hi bg p) pos) k:=
 Rz.as (λκ i Q E s=>Subscript_) (Rz.bind (bQ h) λb bj h=>Rz.as (λκ i Q E s=>wpAny_Slice) (Rz.bind (s_ h) λi dc h=>Rz.bind (s_ h) λj dG h=>a_ h λv hv h=>
  Rz.leaf v dG h λκ a q Q E hi R K=>dv (Rv R hv hi.1.1.2 hi.1.2 hi.2 (kv K))))
theorem ac2(hG:cb W X G)(bQ:eG W X G n)(s_:uz W X G n){o i:aw}{pos:Pos}(h:Gv (Oe (keysAt G o st) (λq=>Tt (pH i) (Ob (ob (qE G 20 i st) V.i?) λj=>Ob (jv j q.2) λy=>k y st))
 (bc G n o st (λa st=>Oe (sliceOf i) (λq=>mR G n q.1 st (λi st=>mR G n q.2 st (λj st=>Ob (fy (isName o) a i j) λv=>k v st) x) x)
  (Tt (pH i) (bc G n i st (λi st=>yL a i λv=>k v st) x))) x)) rr):RE W X G J x rr st (.Subscript o i pos) k:=by
 refine eC h (λq hq h=>bF h λhs h=>a_ h λj hj h=>aD hj λv hv hj=>a_ h λy hy h=>?_) λ_ h=>?_
 ·exact Rz.leaf y st h λκ a i Q E hi R K=>Subscript_ (qY hG hq R λd t r=>rD hG _ hv κ (R.tok t) λvi t' qR=>J6 (a:=a) r hy (Ek hs) (λu hu=>kv K (a.to _) _ (Le.to (.mk _ _)) hu (R.tok _)) (dF hj qR))
 ·cases hq:sliceOf i with
  |some q=>
   obtain⟨p,e⟩:=ab7 hq
   rw[hq]at h
   rw[e];exact acW bQ s_ h
  |none=>
   rw[hq]at h
   cases hs:pH i with
   |true=>rw[hs]at h;exact Rz.two (λκ i Q E s=>Subscript_) bQ h λb c st' h=>Xb hs h
   |false=>rw[hs]at h;exact Rz.as (λκ i Q E s=>Subscript_) (Rz.bind (bQ h) λb bj h=>No h)
theorem acJ(bQ:eG W X G n)(yD:xm W X G n):xm W X G (n+1):=by
 intro op es st k x r h J pos
 cases es with
 |nil=>exact No h
 |cons e es=>
  cases es with
  |nil=>exact Rz.as (λκ i Q E s=>BoolOp_one) (bQ (h:Gv (bc G n e st k x) r))
  |cons e2 es=>
   have h:Gv (bc G n e st (λv st=>Ob (truth v) λb=>Br (zE op (!b) b) (k v st) (xT G n op (e2::es) st k x)) x) r:=h
   cases op with
   |And=>
    exact Rz.as (λκ i Q E s=>BoolOp_and) (Rz.bind (bQ h) λv bj h=>a_ h λb hb h=>mB h
     (λeb h=>Rz.leaf v bj h λκ a i Q E hi R K=>tZ (R.fh κ.hA) hb hi.2 λt=>by rw[dM eb,if_neg jW];exact kv K (a.to _) _ (Le.to (.mk _ t)) hi.2 (R.tok t))
     λeb h=>Rz.pre (λκ a i Q E hi R K=>tZ (R.fh κ.hA) hb hi.2 λt=>by rw[Y8 eb,if_pos rfl];exact K (a.to _) (Le.to (.mk _ t)) (R.tok t)) (yD h pos))
   |Or=>
    exact Rz.as (λκ i Q E s=>BoolOp_or) (Rz.bind (bQ h) λv bj h=>a_ h λb hb h=>mB h
     (λeb h=>Rz.leaf v bj h λκ a i Q E hi R K=>tZ (R.fh κ.hA) hb hi.2 λt=>by rw[show b=ae from eb,if_pos rfl];exact kv K (a.to _) _ (Le.to (.mk _ t)) hi.2 (R.tok t))
     λeb h=>Rz.pre (λκ a i Q E hi R K=>tZ (R.fh κ.hA) hb hi.2 λt=>by rw[show b=af from eb,if_neg jW];exact K (a.to _) (Le.to (.mk _ t)) (R.tok t)) (yD h pos))
theorem acF(ke:oE W X G n)(yC:xl W X G n):xl W X G (n+1):=by
 intro op es st k x r h J
 cases es with
 |nil=>cases op with
  |And=>exact Rz.leaf ae st h λκ a i Q E hi R K=>wpAny_allTrue_And_nil (lh R K a.s.toks)
  |Or=>exact Rz.leaf af st h λκ a i Q E hi R K=>wpAny_allTrue_Or_nil (lh R K a.s.toks)
 |cons e es=>
  cases op with
  |And=>
   have h:Gv (iV G n e st (λb st=>Br b (qy G n .And es st k x) (k af st)) x) r:=h
   exact Rz.as (λκ i Q E s=>wpAny_allTrue_And_cons) (Rz.bind (ke h) λb bj h=>mB h
    (λeb h=>Rz.pre (λκ a i Q E hi R K=>by rw[show i.2=b from hi.2,eb,if_pos rfl];exact K a (Le.refl a) R) (yC h))
    λeb h=>Rz.leaf af bj h λκ a i Q E hi R K=>by rw[show i.2=b from hi.2,eb,if_neg jW];exact lh R K a.s.toks)
  |Or=>
   have h:Gv (iV G n e st (λb st=>Br b (k ae st) (qy G n .Or es st k x)) x) r:=h
   exact Rz.as (λκ i Q E s=>wpAny_allTrue_Or_cons) (Rz.bind (ke h) λb bj h=>mB h
    (λeb h=>Rz.leaf ae bj h λκ a i Q E hi R K=>by rw[show i.2=b from hi.2,eb,if_pos rfl];exact lh R K a.s.toks)
    λeb h=>Rz.pre (λκ a i Q E hi R K=>by rw[show i.2=b from hi.2,eb,if_neg jW];exact K a (Le.refl a) R) (yC h))
theorem acK(bQ:eG W X G n):uz W X G (n+1):=by
 intro e st k x r h J
 cases e with
 |none=>exact Rz.leaf bg st h λκ a i Q E hi R K=>dv (K a _ (Le.refl a) ⟨rfl,R⟩)
 |some e=>exact Rz.turn (C:=vA.p) ag (λκ y st a v h=>h) (λy st h=>h) (bQ (h:Gv (bc G n e st (λv st=>k (ag v) st) x) r))
theorem An{e:aw}(h:Fy e=af)(r:List aw)(env:Env):starEach (e::r) env=(af,eval e env)::starEach r env:=by cases e<;>first|rfl|exact nt (show af=ae from h.symm)
theorem Aw{e:aw}{es:List aw}(h:j2 (e::es)=ae):Fy e=af∧j2 es=ae:=⟨dM (aF h).1,(aF h).2⟩
theorem acE(bQ:eG W X G n)(dX:je W X G n):je W X G (n+1):=by
 intro es st k x r hu h J pos
 cases es with
 |nil=>exact Rz.leaf [] st h λκ a i Q E hi R K=>args_nil (K a _ (Le.refl a) ⟨rfl,R⟩)
 |cons e es=>
  obtain⟨h1,h2⟩:=Aw hu
  exact Rz.as (λκ i Q E s q=>args_cons q (An h1 es κ.env)) (Rz.bind (bQ (h:Gv (bc G n e st (λv st=>dS G n es st (λvs st=>k (v::vs) st) x) x) r)) λy bj h=>
   Rz.bind (dX h2 h pos) λys dc h=>Rz.leaf (y::ys) dc h λκ a i Q E hi R K=>K a _ (Le.refl a) ⟨.mk _ _ hi.1.2 hi.2,R⟩)
theorem acI(bQ:eG W X G n)(hZ:lN W X G n):lN W X G (n+1):=by
 intro aE st k x r h J pos
 cases aE with
 |nil=>exact Rz.leaf [] st h λκ a i Q E hi R K=>kwAll_nil (K a _ (Le.refl a) ⟨rfl,R⟩)
 |cons w aE=>
  obtain⟨nm,e,p⟩:=w
  cases nm with
  |none=>exact No h
  |some nm=>
   exact Rz.as (λκ i Q E s=>kwAll_cons) (Rz.bind (bQ (h:Gv (bc G n e st (λv st=>kW G n aE st (λvs st=>k ((nm,v)::vs) st) x) x) r)) λy bj h=>
    Rz.bind (hZ h pos) λys dc h=>Rz.leaf ((nm,y)::ys) dc h λκ a i Q E hi R K=>K a _ (Le.refl a) ⟨.mk (nm,_) _ ⟨rfl,hi.1.2⟩ hi.2,R⟩)
theorem wN{n:Nat}(h:aJ n 1000=ae):n≤sizeLine:=yS (n:=1000) h rfl
theorem acH(bQ:eG W X G n)(sZ:uy W X G n)(dX:je W X G n)(ke:oE W X G n):uy W X G (n+1):=by
 intro e st k x r h J
 cases e with
 |List es pos=>
  exact bF h λhu h=>Rz.as (λκ i Q E s=>wpAny_List) (Rz.bind (dX hu h pos) λys bj h=>bF h λhl h=>Rz.leaf ys bj h λκ a i Q E hi R K=>
   ⟨by rw[aS.length hi.2];exact wN hl,K (a.to (pushS a.s (cM i.2.toArray 0))) _ (Le.to (.mk _ _)) (qc.mk _ i.2.toArray 0 hi.2 (R.tO rfl))⟩)
 |BinOp l op rt pos=>
  exact Rz.two (λκ i Q E s=>wpAny_BinOp) bQ h λb c st' h=>a_ h λq hl h=>bF h λhc h=>⟨q.2,h,λκ a va vb Q E ha hb R K=>X' (Kq hl hc) ha hb R K⟩
 |IfExp t b o pos=>exact Rz.JG ke h (λκ i Q E s=>wpAny_IfExp) (λst' h=>sZ h) λst' h=>sZ h
 |_=>exact No h
theorem qc.frozen{l:List V}{d:Cf}{v:ao}(R:Rl W κ st d→True):qc κ l st d v→∃p,VR W (p::d.fz) κ.x (.lst l) v∧Rl W κ st (d.fr p d.s)
 |.mk p vs n k R=>⟨(p,cM vs n),cf.mk p vs n (.here _ _) (k.up (Sub.cons _ _)),R.Ua⟩
theorem acX(sZ:uy W X G n){es:List aw}{pos:Pos}(h:Gv (kU G n (.List es pos) st (λl st=>k (.lst l) st) x) rr):RE W X G J x rr st (.List es pos) k:=by
 have h:RF W X G J x rr st (.List es pos) (λl st=>k (.lst l) st):=sZ h
 rcases h with⟨y,st',H,h⟩|⟨y,st',H,h⟩
 ·exact .ok (.lst y) st' (λκ a i hi c Q E lc R q=>H κ a i hi c Q E lc R λd v l hv=>by
   obtain⟨p,h1,h2⟩:=qc.frozen (λ_=>trivial) hv
   exact q (d.fr p d.s) v (l.trans (Le.fr (cU.refl _))) ⟨h1,h2⟩) h
 ·exact .ex y st' H h
theorem ac5(dX:je W X G n){es:List aw}{cx:Nat}{pos:Pos}(h:Gv (Tt (j2 es) (dS G n es st (λvs st=>Tt (aJ vs.length 1000) (k (.tup vs) st)) x)) rr):RE W X G J x rr st (.Tuple es cx pos) k:=
 bF h λhu h=>Rz.as (λκ i Q E s=>wpAny_Tuple) (Rz.bind (dX hu h pos) λys bj h=>bF h λhl h=>Rz.leaf _ bj h λκ a i Q E hi R K=>
  ⟨by rw[aS.length hi.2];exact wN hl,kv K (a.fr (a.s.heap.objs.size,fJ i.2.toArray 0) (pushS a.s (fJ i.2.toArray 0))) _ (Le.fr (.mk _ _)) (cf.mk _ i.2.toArray 0 (.here _ _) (hi.2.up (Sub.cons _ _))) (R.push rfl)⟩)
end
section
variable{W:Wd}{fz bz:Cells}{x x' :aQ}
theorem cf.re{mk}{r r' :List ao→Prop}(k:∀vs,r vs→r' vs){v:ao}(h:cf W fz mk r v):cf W fz mk r' v:=cf.up (Sub.refl _) k h
mutual
theorem VR.re:∀{y:V}{v:ao},dT y=ae→VR W fz x y v→VR W fz x' y v
 |.none,_,_,r=>r
 |.bool _,_,_,r=>r
 |.int _,_,_,r=>r
 |.str _,_,_,r=>r
 |.tup _,_,h,r=>cf.re (λ_=>aS.re h) r
 |.lst _,_,h,r=>cf.re (λ_=>aS.re h) r
 |.obj _ _,_,h,.mk a o d es n c1 c2 e z c3 k=> .mk a o d es n c1 c2 e z c3 ⟨k.1,gd.re h k.2⟩
 |.ak,_,h,_=>nt h
 |.junk,_,_,r=>r
 |.bi _,_,_,r=>r
 |.eV _,_,_,r=>r
 |.tab _,_,h,.mk a es n c z k=> .mk a es n c z (gc.re h k)
theorem aS.re:∀{y:List V}{v:List ao},d6 y=ae→aS W fz x y v→aS W fz x' y v
 | [],_,_,r=>r
 |_::_,_,h,r=>dH.up (λ_=>VR.re (aF h).1) (λ_=>aS.re (aF h).2) r
theorem gd.re:∀{y:List (Str×V)}{g:Str→Option ao},lA y=ae→gd W fz x y g→gd W fz x' y g
 | [],_,_,r=>r
 |(_,_)::_,_,h,r=>⟨iQ.up (λ_=>VR.re (aF h).1) r.1,gd.re (aF h).2 r.2⟩
theorem gc.re:∀{y:List (Str×V)}{v:List DictEntry},lA y=ae→gc W fz x y v→gc W fz x' y v
 | [],_,_,r=>r
 |(_,_)::_,_,h,r=>dH.up (λ_ k=>⟨k.1,VR.re (aF h).1 k.2⟩) (λ_=>gc.re (aF h).2) r
end
theorem dW.re:∀{l:List (Str×V)}{bs:List (Str×ao)},lA l=ae→dW W fz x l bs→dW W fz x' l bs
 | [],_,_,r=>r
 |(_,_)::_,_,h,r=>dH.up (λ_ k=>⟨k.1,VR.re (aF h).1 k.2⟩) (λ_=>dW.re (aF h).2) r
theorem IK{g:Str→Option ao}{fs:FS}:∀{gs:List (Str×V)},zY fs=ag gs→A9 fs=ae→(∀a y,aV a fs=ag (.v y)→iQ (g a) (VR W fz x y))→gd W fz x gs g:=by
 induction fs with
 |nil=>intro gs h _ _;rw[so h];trivial
 |cons p r ih=>
  intro gs h ha k
  refine aD h λy hy h=>aD h λl hl h=>?_
  have hp:aV p.1 (p::r)=ag p.2:=by unfold aV;rw[Ae]
  rw[so h]
  refine⟨k _ _ (by rw[hp,kc hy]),ih hl (aF ha).2 λa z hz=>k a z ?_⟩
  have ne:a≠p.1:=λe=>by
   have:=(aF ha).1
   rw[←e,hz]at this;exact nt this
  unfold aV;rw[tV ne];exact hz
theorem IM{a:Str}{fs:FS}:∀{gs:List (Str×V)},zY fs=ag gs→aV a gs=bg→aV a fs=bg:=by
 induction fs with
 |nil=>intro gs _ _;rfl
 |cons p r ih=>
  intro gs h k
  refine aD h λy hy h=>aD h λl hl h=>?_
  rw[so h]at k
  unfold aV at k⊢
  cases q:seq a p.1 with
  |true=>rw[q]at k;cases k
  |false=>rw[q]at k;exact ih hl k
end
section
variable{W:Wd}{X:bU}{G:aX}{κ:aW W G}{a:Cf}{st st' :aq}{Q:ao→ay→Prop}{E:ao→ay→Prop}{n:Nat}{J:cD W G}{k:V→aq→au}{x:V→aq→au}{rr:R}{s:ay}{A:eK}
noncomputable abbrev Kept(W:Wd)(f:ao):Prop:=∀h,W.K.In h→∃k,(k=Keeper.frame∨k=Keeper.machine∨k=Keeper.boundFrame)∧Looks W.M h (keeperOf f) k
theorem vO{f:aQ}(h:keepIn W.K (.ref f)=ae):Kept W (.ref f):=keeps_K h
theorem Xp(T:String):Kept W (.type T):=λ_ _=>⟨.machine,.inr (.inl rfl),Looks.now⟩
theorem DH(id:String):Kept W (.builtin id):=λ_ _=>⟨.machine,.inr (.inl rfl),Looks.now⟩
theorem DG(b:Bi):Kept W b.val:=by cases b<;>first|exact DH _|exact Xp _
theorem D_{K:jX}{C fI:aQ}(h:rh K C fI=ae):makesIn K C=ae∧findIn K (.ref C) "__init__"=ag (ag (.ref fI))∧isFn K (.ref fI)=ae∧keepIn K (.ref C)=ae:=by
 obtain⟨h1,h⟩:=aF h
 obtain⟨h2,h⟩:=aF h
 exact⟨h1,beq_iff_eq.mp h2,aF h⟩
theorem rQ{pos:Pos}{env:Env}{args:List aw}(h:j2 args=ae):(backTo pos (starEach args env)).all (λp=>!p.1)=ae∧(backTo pos (starEach args env)).any (λp=>p.1)=af:=by
 induction args with
 |nil=>exact⟨rfl,rfl⟩
 |cons e r ih=>
  obtain⟨h1,h2⟩:=Aw h
  rw[An h1]
  obtain⟨i1,i2⟩:=ih h2
  exact⟨(congrArg (ae&& ·) i1:_),(congrArg (af|| ·) i2:_)⟩
theorem ph{pos:Pos}{env:Env}{aE:List Keyword}(h:vQ aE=ae):(backToKw pos (keywordEach aE env)).all (·.1.isSome)=ae∧(backToKw pos (keywordEach aE env)).any (·.1.isNone)=af:=by
 induction aE with
 |nil=>exact⟨rfl,rfl⟩
 |cons w r ih=>
  obtain⟨nm,e,p⟩:=w
  cases nm with
  |none=>exact nt (aF h).1
  |some nm=>
   obtain⟨i1,i2⟩:=ih (aF h).2
   exact⟨(congrArg (ae&& ·) i1:_),(congrArg (af|| ·) i2:_)⟩
theorem tK{args:List aw}{aE:List Keyword}(h:gU args aE=ae):j2 args=ae∧vQ aE=ae∧args.length+aE.length<20:=⟨(aF h).1,(aF (aF h).2).1,bw (aF (aF h).2).2⟩
theorem Hh{o:aw}{name:Str}{apos pos:Pos}{args:List aw}{aE:List Keyword}{env:Env}(hp:aH apos.endLine pos.line=ae)(ha:gU args aE=ae):
 eval (.Call (.Attribute o name apos) args aE pos) env=(do
  let ov ←attributeBase o name env (eval o env)
  standAt apos.atName
  let(f,first) ←holding [ov] (getMethod ov name (do return (←importBound o env).getD ae))
  callWith pos f first (backTo pos (starEach args env)) (backToKw pos (keywordEach aE env))):=by
 obtain⟨h1,h2,h3⟩:=tK ha
 have hf:methodCallForm (args.length+aE.length) (backTo pos (starEach args env)) (backToKw pos (keywordEach aE env))=ae:=by
  unfold methodCallForm
  rw[(rQ h1).1,(ph h2).1]
  simp only[Bool.true_and,decide_eq_true_eq]
  split<;>omega
 have k_:(apos.endLine==pos.line)=ae:=by rw[bG hp];exact beq_self_eq_true _
 rw[arm_eval_Call]
 unfold methodCall methodCallPos calleeOf
 rw[hf,k_]
 rfl
theorem Hg{o:aw}{name:Str}{apos pos:Pos}{args:List aw}{aE:List Keyword}{env:Env}(hc:(baseOk o&&aH apos.endLine pos.line)=ae)(ha:gU args aE=ae):
 eval (.Call (.Attribute o name apos) args aE pos) env=(do
  let ov ←eval o env
  standAt apos.atName
  let(f,first) ←holding [ov] (getMethod ov name (do return (←importBound o env).getD ae))
  callWith pos f first (backTo pos (starEach args env)) (backToKw pos (keywordEach aE env))):=by
 rw[Hh (aF hc).2 ha,GY (aF hc).1]
theorem sC{f:ao}{args:List aw}{aE:List Keyword}{pos:Pos}{env:Env}{Q:Args→ay→Prop}(hu:j2 args=ae)(hk:vQ aE=ae)
 (h:aA W.M A (spliced (backTo pos (starEach args env))) (λvs cu=>aA W.M A (evalAll ((backToKw pos (keywordEach aE env)).map (·.2))) (λks bV=>Q ⟨vs,(vR pos aE env).zip ks⟩ bV) E cu) E s):
 aA W.M A (evalArgs f ae (backTo pos (starEach args env)) (backToKw pos (keywordEach aE env))) Q E s:=by
 cases args with
 |nil=>exact evalArgs_kw2_nil (ph hk).1 λΓ p Jx=>(h Γ p Jx:aA W.M A (evalAll ((backToKw pos (keywordEach aE env)).map (·.2))) (λks bV=>Q ⟨[],(vR pos aE env).zip ks⟩ bV) E s) Γ p Jx
 |cons e r=>exact evalArgs_kw2 (ph hk).1 h (An (Aw hu).1 r env)
theorem Rz.args{f:(κ:aW W G)→J.ι→ao}{first:(κ:aW W G)→J.ι→List ao}{args:List aw}{aE:List Keyword}{pos:Pos}{α:Type}{B:Po W G α ao}{k:α→aq→au}{k' :List V→List (Str×V)→aq→au}(hk:∀κ i,Kept W (f κ i))(ha:gU args aE=ae)(dX:je W X G n)(hZ:lN W X G n)
 (h:Gv (dS G n args st (λvs st=>kW G n aE st (k' vs) x) x) rr) (l:∀ys ks st',Gv (k' ys ks st') rr→Rz X ((J.and sA ys).and (kA W G pos aE) ks) ae (λκ i Q E s=>W.K.In s.heap∧aA W.M κ.A (call (f κ i.1.1) (first κ i.1.1++i.1.2) ((vR pos aE κ.env).zip i.2)) Q E s) st' B k x rr):
 Rz X J ae (λκ i=>aA W.M κ.A (callWith pos (f κ i) (first κ i) (backTo pos (starEach args κ.env)) (backToKw pos (keywordEach aE κ.env)))) st B k x rr:=by
 obtain⟨hu,hw,_⟩:=tK ha
 exact Rz.as (λκ i Q E s h=>callWith_of (P:=W.K.In) (by rw[(rQ hu).2,(ph hw).2];rfl) (hk κ i) (sC hu hw h)) (Rz.bind (dX hu h pos) λys bj h=>Rz.bind (hZ h pos) λks dc h=>l ys ks dc h)
theorem Rz.GN{f:(κ:aW W G)→J.ι→ao}{first:(κ:aW W G)→J.ι→List ao}{args:List aw}{pos:Pos}{α:Type}{B:Po W G α ao}{k:α→aq→au}{k' :List V→aq→au}(hk:∀κ i,Kept W (f κ i))(ha:gU args []=ae)(dX:je W X G n)
 (h:Gv (dS G n args st k' x) rr) (l:∀ys st',Gv (k' ys st') rr→Rz X (J.and sA ys) ae (λκ i Q E s=>W.K.In s.heap∧aA W.M κ.A (call (f κ i.1) (first κ i.1++i.2) []) Q E s) st' B k x rr):
 Rz X J ae (λκ i=>aA W.M κ.A (callWith pos (f κ i) (first κ i) (backTo pos (starEach args κ.env)) (backToKw pos (keywordEach [] κ.env)))) st B k x rr:=by
 obtain⟨hu,hw,_⟩:=tK ha
 exact Rz.as (λκ i Q E s h=>callWith_of (P:=W.K.In) (by rw[(rQ hu).2,(ph hw).2];rfl) (hk κ i) (sC hu hw h)) (Rz.bind (dX hu h pos) λys bj h=>Rz.as (λκ i Q E s h=>kwAll_nil h) (l ys bj h))
inductive xj(Q:ao→ay→Prop)(E:ao→ay→Prop):Result→ay→Prop
 |ret {v s}:Q v s→xj Q E (.ok (.ret v)) s
 |err {e s}:E e s→xj Q E (.error e) s
theorem QX{M:Model}{f:ao}{pos:List ao}{kw:List (Str×ao)}{R:Result→ay→Prop}{Q:ao→ay→Prop}{E:ao→ay→Prop}(hc:codeAny M A (.call f ⟨pos,kw⟩) R s)(h:∀res s',R res s' →xj Q E res s'):aA M A (call f pos kw) Q E s:=
 wpAny_call (codeAny_mono hc λres s' q=>by obtain q|q:=h res s' q<;>exact q)
noncomputable abbrev CT(W:Wd)(G:aX)(J:cD W G)(f:ao)(vals:(κ:aW W G)→J.ι→List ao)(kvs:(κ:aW W G)→J.ι→List (Str×ao)):(κ:aW W G)→J.ι→Tr ao:=λκ i Q E s=>W.K.In s.heap∧aA W.M κ.A (call f (vals κ i) (kvs κ i)) Q E s
theorem Rz.fn{f:aQ}{F:Fn}{ys:List V}{ks:List (Str×V)}{vals:(κ:aW W G)→J.ι→List ao}{kvs:(κ:aW W G)→J.ι→List (Str×ao)}(hF:bH W X G.dep G.quiet f F)(h:Gv (F ys ks st.self (wD st k x)) rr)
 (hv:∀κ a i,J.I κ a i→aS W a.fz κ.x ys (vals κ i)) (hw:∀κ a i,J.I κ a i→dW W a.fz κ.x ks (kvs κ i)):Rz X J ae (CT W G J (.ref f) vals kvs) st vA.p k x rr:=by
 obtain⟨r',dC,HC,h⟩:=hF _ _ _ _ _ h
 have go:∀κ a i Q E,J.I κ a i→Rl W κ st a→(∀m c1 f,(st.free=ae∨f=a.π.f)→AR W a.fz κ.x c1 a.π.l m st.loc→∀res s',Gg W X f κ.x κ.c m (c1++a.rest) a.fz a.s r' dC res s' →xj (λv s=>Q v s) E res s')→CT W G J (.ref f) vals kvs κ i Q E a.s:=λκ a i Q E hi R K=>by
  have jL:=R.bX κ.hA.bX
  obtain⟨m,c1,f,e,C,L⟩:=R
  exact⟨jL,QX (HC f κ.x κ.c κ.A m (c1++a.rest) a.fz a.s _ _ κ.hA κ.quiet κ.room C (hv κ a i hi) (hw κ a i hi)) (K m c1 f e L)⟩
 cases r' with
 |ok y=>
  exact Rz.leaf y _ h λκ a i Q E hi R K=>go κ a i Q E hi R λm c1 f e L res s' q=>by
   obtain⟨v,bz,hf,hy,C',u⟩:=(q:COk _ _ _ _ _ _ _ _ _ _ _ _)
   exact .ret<|K ⟨a.π,a.rest,bz,s'⟩ v ⟨λ_=>rfl,rfl,rfl,hf,u⟩ ⟨hy,m,c1,f,e,C',L.up hf (Sub.refl _)⟩
 |exc y=>
  exact .ex y _ (λκ a i hi c Q E lc R K=>go κ c i Q E (J.up κ a c i lc hi) R λm c1 f e L res s' q=>by
   obtain⟨ev,bz,hf,hx,u⟩:=(q:xf _ _ _ _ _ _ _ _ _ _ _)
   exact .err<|K ev s' ⟨bz,m,c1,_,hf,hx,L.up hf (Sub.refl _),u⟩) h
end
noncomputable def LM.nm(q:LM):Str:=LM.casesOn q GL H9 Mc
noncomputable def LM.id(q:LM):String:=LM.casesOn q "list.append" "list.extend" "list.pop"
theorem XU{m:Str}{q:LM}(h:lm m=ag q):m=q.nm:=
 gM h (λe h=>by rw[so h];exact eN.mp e) λ_ h=>gM h (λe h=>by rw[so h];exact eN.mp e) λ_ h=>bK h λe h=>by rw[so h];exact eN.mp e
theorem aaX{l:List V}:∀{p:List V×V},wA l=ag p→l=p.1++[p.2]:=by
 induction l with
 |nil=>intro p h;exact no h
 |cons a r ih=>
  intro p h
  cases r with
  |nil=>rw[so (h:ag ([],a)=ag p)];rfl
  |cons b t=>exact aD (h:(ob (wA (b::t)) λp=>ag (a::p.1,p.2))=ag p) λq hq h=>by rw[so h,ih hq];rfl
section
variable{W:Wd}{X:bU}{G:aX}{κ:aW W G}{a:Cf}{st st' :aq}{Q:ao→ay→Prop}{E:ao→ay→Prop}{n:Nat}{J:cD W G}{k:V→aq→Option R}{x:V→aq→Option R}{rr:R}{s:ay}{A:eK}
theorem UY{d:aQ}{vs:Array ao}{n:Nat}(q:LM){pl:Sem Bool}{Q:ao×List ao→ay→Prop}(ho:s.heap.get? d=ag (cM vs n))(h:Q (.builtin q.id,[.ref d]) s):aA W.M A (getMethod (.ref d) q.nm pl) Q E s:=by
 have hT:s.TypeIs (.ref d) "list":=⟨_,ho,rfl⟩
 have iC:∀b,(jV d)=.ref b→∃o,s.heap.get? b=ag o∧o.dict=bg:=λb e=>by cases e;exact⟨_,ho,rfl⟩
 cases q with
 |append=>exact Calls.getMethod_list_append ho rfl rfl h
 |extend=>exact getMethod_builtin hT aac LB PySem.F.type_list_extend iC h
 |pop=>exact getMethod_builtin hT aac tG PySem.F.type_list_pop iC h
theorem zg(f:Array ao→Array ao)(its:Array ao)(n:Nat):aag f (cM its n)=cM (f its) (if(f its).size==its.size then n else n+1):=rfl
abbrev uj(κ:aW W G)(a:Cf)(st:aq)(Q:ao→ay→Prop)(E:ao→ay→Prop)(p:Pl)(id:String)(ys:List V):Prop:=∀{vs:List ao},aS W a.fz κ.x ys vs→aA W.M κ.A (call (.builtin id) (.ref (p.addr a.π)::vs)) Q E a.s
theorem ZV{p:Pl}{l:List V}{v:V}(hl:p.get st=ag l)(hb:short l=ae)(R:Rl W κ st a)(K:Kv κ (p.put st (l++[v])) .none a Q):uj κ a st Q E p "list.append" [v]
 |_,.mk u _ hu rfl=>by
  obtain⟨ws,n,g,hw,up⟩:=R.place hl
  exact append_at g (λh' hs ho=>K (a.to _) _ (Le.to (.mk _ _)) rfl (up _ _ _ _ hs ho (by rw[Array.toList_push];exact hw.append (.mk u [] hu rfl)))) (hw.size▸lK hb)
theorem SQ{d b:aQ}{ws us:Array ao}{n n2:Nat}(hg:s.heap.get? d=ag (cM ws n))(VG:s.heap.get? b=ag (cM us n2))(gP:ws.size+us.size≤sizeLine)
 (K:∀h' n',pL d s.heap h' →h'.get? d=ag (cM (ws++us) n')→Q .none {s with heap:=h' }):aA W.M A (call (.builtin "list.extend") [.ref d,.ref b]) Q E s:=by
 refine call_meets LB ⟨_,hg,rfl⟩ PySem.F.entry_list_extend (PySem.F.args_list_extend_2 _ _) (AutoSeq1.list_extend_list_list_0 _ ws n b us n2 (extend_door gP) (aL (dh _ _) gP) (zT gP)) ⟨hg,VG,?_⟩
 have i8:=Ey (aag λx=>x++us) hg (by rw[mapSeq_app];rfl)
 rw[mapSeq_app]at i8
 exact K _ _ (EH ..) i8
theorem ZW{p:Pl}{l l2:List V}{v:V}(hv:v.l?=ag l2)(hl:p.get st=ag l)(hb:aJ (l.length+l2.length) aZ=ae)(R:Rl W κ st a)(K:Kv κ (p.put st (l++l2)) .none a Q):uj κ a st Q E p "list.extend" [v]
 |_,.mk u _ hu rfl=>by
  obtain⟨ws,n,g,hw,up⟩:=R.place hl
  obtain⟨b,us,n2,h1,h2⟩:=jS hv hu
  exact SQ g (R.get κ.hA.bX h1) (by rw[hw.size,h2.size];exact yS (n:=aZ) hb rfl) λh' n' hs ho=>K (a.to {a.s with heap:=h' }) _ (Le.to (.mk _ _)) rfl (up _ _ _ _ hs ho (by rw[Array.toList_append];exact hw.append h2))
theorem pop_at{d:aQ}{us:List ao}{u:ao}{n:Nat}(hg:s.heap.get? d=ag (cM (us++[u]).toArray n))(gP:us.length<sizeLine)
 (K:∀h' n',pL d s.heap h' →h'.get? d=ag (cM us.toArray n')→Q u {s with heap:=h' }):aA W.M A (call (.builtin "list.pop") [.ref d]) Q E s:=by
 refine call_meets tG ⟨_,hg,rfl⟩ LC (PySem.F.args_list_pop_1 _) (MeetsSeq.list_pop_last _ _ n u (by simp) (by rw[Lm,bE];exact gP)) ⟨hg,?_⟩
 have e1:(us++[u]).toArray.eraseIdxIfInBounds ((us++[u]).toArray.size -1)=us.toArray:=by
  apply Array.toList_inj.mp
  simp[List.eraseIdx_append_of_length_le]
 have i8:=Ey (aag λxs=>xs.eraseIdxIfInBounds ((us++[u]).toArray.size -1)) hg (by rw[zg];rfl)
 rw[zg,e1]at i8
 exact K _ _ (EH ..) i8
theorem aaW{d:aQ}{us:List ao}{u:ao}{n:Nat}{t:Tok}(hg:s.heap.get? d=ag (cM (u::us).toArray n))(gP:us.length<sizeLine)
 (K:∀h' n',pL d s.heap h' →h'.get? d=ag (cM us.toArray n')→Q u {s with heap:=h' }):aA W.M A (call (.builtin "list.pop") [.ref d,.int 0 t]) Q E s:=by
 refine call_meets tG ⟨_,hg,rfl⟩ LC (PySem.F.args_list_pop_2 _ _) (MeetsSeq.list_pop_at _ _ n 0 t 0 u (by decide) (by unfold seqIndex?;simp) (by simp) (by rw[Lm];exact gP)) ⟨hg,?_⟩
 have e1:(u::us).toArray.eraseIdxIfInBounds 0=us.toArray:=by
  apply Array.toList_inj.mp
  simp
 have i8:=Ey (aag λxs=>xs.eraseIdxIfInBounds 0) hg (by rw[zg];rfl)
 rw[zg,e1]at i8
 exact K _ _ (EH ..) i8
theorem GP{ws:Array ao}{l:List ao}(h:ws.toList=l):ws=l.toArray:=Array.toList_inj.mp h
theorem ZX{p:Pl}{r:List V}{y:V}(hl:p.get st=ag (r++[y]))(hb:short (r++[y])=ae)(R:Rl W κ st a)(K:Kv κ (p.put st r) y a Q):uj κ a st Q E p "list.pop" []
 |_,rfl=>by
  obtain⟨ws,n,g,hw,up⟩:=R.place hl
  obtain⟨us,u,e,h1,h2⟩:=hw.snoc
  rw[GP e]at g
  refine pop_at g ?_ λh' n' hs ho=>K (a.to {a.s with heap:=h' }) _ (Le.to (.mk _ _)) h2 (up _ _ _ _ hs ho h1)
  have:=lK hb
  rw[bE]at this
  rw[h1.length];exact this
theorem ZY{p:Pl}{r:List V}{y v:V}(hv:v.i?=ag 0)(hl:p.get st=ag (y::r))(hb:short (y::r)=ae)(R:Rl W κ st a)(K:Kv κ (p.put st r) y a Q):uj κ a st Q E p "list.pop" [v]
 |_,.mk w _ We rfl=>by
  obtain⟨ws,n,g,hw,up⟩:=R.place hl
  obtain⟨t⟩:=dF hv We
  generalize e:ws.toList=z at hw
  obtain⟨u,us,h2,h1⟩:=(hw:dH _ _ _)
  rw[GP e]at g
  exact aaW g (by rw[h1.length];exact lK hb) λh' n' hs ho=>K (a.to {a.s with heap:=h' }) _ (Le.to (.mk _ _)) h2 (up _ _ _ _ hs ho h1)
theorem XS{l vs:List V}{m:LM}{q:Bool×List V×V}(h:DT l m vs=ag q)(hc:q.1=ae):Ki l m vs=ag q.2:=by
 cases m with
 |append=>exact aD h λv hv h=>by cases so h;exact fC hv (ez hc rfl)
 |extend=>exact aD h λv hv h=>aD h λl2 h2 h=>by cases so h;exact fC hv (fC h2 (ez hc rfl))
 |pop=>
  exact gM h (λe h=>aD h λw hw h=>by cases so h;exact ez hc (by rw[e];exact hw)) λe h=>aD h λv hv h=>aD h λi hi h=>bK h λh0 h=>by
   cases l with
   |nil=>exact no h
   |cons y r=>cases so h;exact ez hc (by rw[e];exact fC hv (fC hi (ez h0 rfl)))
theorem ZZ{p:Pl}{q:LM}{l ys:List V}{w:List V×V}(h:Ki l q ys=ag w)(hl:p.get st=ag l)(R:Rl W κ st a)(K:Kv κ (p.put st w.1) w.2 a Q):uj κ a st Q E p q.id ys:=by
 cases q with
 |append=>exact aD h λv hv h=>bK h λhb h=>by rw[so h]at K;rw[dN hv];exact ZV hl hb R K
 |extend=>exact aD h λv hv h=>aD h λl2 h2 h=>bK h λhb h=>by rw[so h]at K;rw[dN hv];exact ZW h2 hl hb R K
 |pop=>
  refine bK h λhb h=>gM h (λhn h=>?_) λ_ h=>aD h λv hv h=>aD h λi hi h=>bK h λh0 h=>?_
  ·rw[c_ hn]
   rw[aaX h]at hl hb
   exact ZX hl hb R K
  ·rw[oQ.mp h0]at hi
   cases l with
   |nil=>exact no h
   |cons y r=>rw[so (h:ag (r,y)=ag w)]at K;rw[dN hv];exact ZY hi hl hb R K
theorem join_nil(l:List (List Nat)):Txt.join ⟨#[]⟩ (l.map λz=>ck z.toArray)=⟨l.flatten.toArray⟩:=by
 refine(StrLaws.glued_eq_join _ _).trans ?_
 induction l with
 |nil=>rfl
 |cons z l ih=>
  cases l with
  |nil=>rw[zv,List.flatten_nil,gv];rfl
  |cons y r=>
   have:Str.join ⟨#[]⟩ ((z::y::r).map λz=>ck z.toArray)=ck z.toArray++⟨#[]⟩++Str.join ⟨#[]⟩ ((y::r).map λz=>ck z.toArray):=rfl
   rw[this,ih]
   have e1:=Ap z []
   rw[gv]at e1
   rw[show(ck z.toArray++⟨#[]⟩:Str)=ck z.toArray from e1,Ap];rfl
inductive Pt(t:List Nat)(vs:List ao):Prop
 |mk (zs:List (List Nat)) (h:StrsAre vs (zs.map λz=>ck z.toArray)) (e:t=zs.flatten)
theorem Xh{fz:Cells}{x:aQ}{l:List V}:∀{t:List Nat}{vs:List ao},gq l=ag t→aS W fz x l vs→Pt t vs:=by
 induction l with
 |nil=>intro t vs h hv;rw[(hv:vs=[]),so h];exact⟨[],.nil,rfl⟩
 |cons y r ih=>
  intro t vs h hv
  refine aD h λs hs h=>aD h λu hu h=>?_
  obtain⟨v,ws,h1,h2⟩:=(hv:dH _ _ _)
  obtain⟨_,tk⟩:=dQ hs h1
  obtain⟨zs,h3,e⟩:=ih hu h2
  rw[so h,e]
  exact⟨s::zs,.cons _ _ h3,rfl⟩
theorem Xi{l:List V}{t:List Nat}{tk:Tok}(hA:dR W a.fz a.s)(ht:gq l=ag t)(h1:short t=ae)(K:KV W a.fz κ.x a.s (.str t) Q):∀{v:ao},cf W a.fz cM (aS W a.fz κ.x l) v→aA W.M κ.A (call (.builtin "str.join") [.str ⟨#[]⟩ tk,v]) Q E a.s
 |_,.mk d us n h hu=>by
  obtain⟨zs,hz,rfl⟩:=Xh ht hu
  have hb:=lK h1
  rw[nY]at hb
  have e:((zs.map λz=>ck z.toArray).map (·.length)).sum=zs.flatten.length:=by
   rw[List.length_flatten,Ly]
   congr 1
  refine join_list (jR (hA _ _ h)) hz ?_ λt' k' =>?_
  ·rw[e]
   show _+_*0≤_
   rw[Nat.mul_zero,Nat.add_zero]
   exact aL (bw h1) (by decide)
  ·rw[join_nil]
   exact K _ _ (cj.mk hb t')
end
section
variable{W:Wd}{X:bU}{G:aX}{κ:aW W G}{a:Cf}{st st' :aq}{Q:ao→ay→Prop}{E:ao→ay→Prop}{n:Nat}{J:cD W G}{k:V→aq→au}{x:V→aq→au}{rr:R}{s:ay}{A:eK}
noncomputable def EX(p:Pl)(id:String):Av W G Unit (ao×List ao):=⟨λκ _ a v=>v=(.builtin id,[.ref (p.addr a.π)]),λκ _ a b v l h=>by rw[l.π];exact h⟩
abbrev mT{W:Wd}{G:aX}(m:Str)(o:aw)(pos:Pos)(args:List aw)(aE:List Keyword)(κ:aW W G)(v:ao):Tr ao:=λQ E s=>
 aA W.M κ.A (getMethod v m (do return (←importBound o κ.env).getD ae)) (λfx bV=>aA W.M κ.A (callWith pos fx.1 fx.2 (backTo pos (starEach args κ.env)) (backToKw pos (keywordEach aE κ.env))) Q E bV) E s
theorem kw0(pos:Pos)(env:Env)(l:List ao):(vR pos [] env).zip l=[]:=rfl
theorem KL{K:jX}{C:aQ}{m:Str}{f:aQ}(h:zi K C m f=ae):plainGet K C m=ae∧findIn K (.ref C) m=ag (ag (.ref f))∧isFn K (.ref f)=ae∧keepIn K (.ref f)=ae:=by
 obtain⟨h1,h⟩:=aF h
 obtain⟨h2,h⟩:=aF h
 exact⟨h1,beq_iff_eq.mp h2,aF h⟩
theorem xb{fz:Cells}{x:aQ}{ys:List V}{vs:List ao}(h:aS W fz x ys vs):aS W fz x (.ak::ys) (.ref x::vs):=dH.mk _ _ (rfl:VR W fz x .ak (.ref x)) h
theorem UZ{p:Pl}{q:LM}{l:List V}{pl:Sem Bool}{Q:ao×List ao→ay→Prop}(hl:p.get st=ag l)(R:Rl W κ st a)(K:Q (.builtin q.id,[.ref (p.addr a.π)]) a.s):∀{v:ao},v=.ref (p.addr a.π)→aA W.M κ.A (getMethod v q.nm pl) Q E a.s
 |_,rfl=>let⟨vs,n,g,_,_⟩:=R.place hl;UY q g K
theorem U0{C f:aQ}{fs:FS}{m:Str}{pl:Sem Bool}{Q:ao×List ao→ay→Prop}(hm:zi W.K C m f=ae)(hs:st.self=ag (C,fs))(hl:aV m fs=bg)(R:Rl W κ st a)(K:Q (.ref f,[.ref κ.x]) a.s):∀{v:ao},v=.ref κ.x→aA W.M κ.A (getMethod v m pl) Q E a.s
 |_,rfl=>by
  obtain⟨a1,a2,a3,a4⟩:=KL hm
  obtain⟨f',_,m',ox,es,n',c3,F,I,z,R',_⟩:=R.inst hs
  exact method_inst F κ.hA.bX I a1 a2 a3 (gl_none (z.2 _ hl) z.1) K
theorem get_join{pl:Sem Bool}{Q:ao×List ao→ay→Prop}:∀{v:ao},cj [] v→Q (.builtin "str.join",[v]) s→aA W.M A (getMethod v DD pl) Q E s
 |_,.mk _ t,K=>GM.join K
theorem join_one{l:List V}{t:List Nat}{y:V}(hA:dR W a.fz a.s)(hl:y.l?=ag l)(ht:gq l=ag t)(h1:short t=ae)(K:KV W a.fz κ.x a.s (.str t) Q):∀{u:ao}{vs:List ao},cj [] u→aS W a.fz κ.x [y] vs→aA W.M κ.A (call (.builtin "str.join") (u::vs)) Q E a.s
 |_,_,.mk _ tk,.mk v _ hv rfl=>Xi hA ht h1 K (jS hl hv)
theorem YA(hG:cb W X G)(dX:je W X G n){o:aw}{m:Str}{ap pos:Pos}{args:List aw}{p:Pl}{q:LM}(ha:gU args []=ae)(hc:(baseOk o&&aH ap.endLine pos.line)=ae)(hp:placeOf G o st=ag p)(hq:lm m=ag q)
 (h:Gv (dS G n args st (λvs st=>yV p q vs st k) x) rr):RE W X G J x rr st (.Call (.Attribute o m ap) args [] pos) k:=by
 rw[XU hq]
 obtain⟨l,hl⟩:=aaV hp
 exact Rz.as (λκ i Q E s h=>methodCall_KW h (Hg hc ha)) (Rz.bind (A:=EX p q.id) (T:=λκ i Q E s=>aA W.M κ.A (eval o κ.env) (λv cu=>aA W.M κ.A (getMethod v q.nm (do return (←importBound o κ.env).getD ae)) Q E cu) E s) (k₁:=λ_ st=>dS G n args st (λvs st=>yV p q vs st k) x) (F:=λκ i v=>aA W.M κ.A (callWith pos v.1 v.2 (backTo pos (starEach args κ.env)) (backToKw pos (keywordEach [] κ.env))))
  (.ok () st (λκ a i hi c Q E lc R K=>EZ hG hp R λt=>UZ (a:=c.to {c.s with toks:=t}) hl (R.tok t) (K (c.to {c.s with toks:=t}) _ (Le.to (.mk _ t)) ⟨rfl,R.tok t⟩) rfl) h)
  λ_ bj h=>Rz.pre (J:=J.and (EX p q.id) ()) (T:=λκ i=>aA W.M κ.A (callWith pos (.builtin q.id) i.2.2 (backTo pos (starEach args κ.env)) (backToKw pos (keywordEach [] κ.env)))) (λκ a i Q E hi R K=>by
   rw[show i.2.1=_ from congrArg (·.1) hi.2];exact K a (Le.refl a) R) (Rz.GN (J:=J.and (EX p q.id) ()) (first:=λκ i=>i.2.2) (λκ i=>DH _) ha dX h λys st' h=>a_ h λl hl h=>a_ h λw hw h=>bF h λhc h=>Rz.leaf _ _ h λκ a i Q E hi R K=>⟨R.bX κ.hA.bX,by
    rw[show i.1.2.2=[.ref (p.addr a.π)]from congrArg (·.2) hi.1.2];exact ZZ (XS hw hc) hl R (kv K) hi.2⟩))
theorem YB(hG:cb W X G)(dX:je W X G n)(hZ:lN W X G n){o:aw}{m:Str}{pos:Pos}{args:List aw}{aE:List Keyword}{v:V}{C f:aQ}{fs:FS}(ha:gU args aE=ae)(hv:v.pV=ae)(hs:st.self=ag (C,fs))(hl:aV m fs=bg)(hf:tq C m G.meths=ag f)
 (h:Gv (dS G n args st (λvs st=>kW G n aE st (λks st=>Ob (gQ f G.fns) λF=>F (.ak::vs) ks st.self (wD st k x)) x) x) rr):Rz X (J.and vA v) ae (λκ i=>mT m o pos args aE κ i.2) st vA.p k x rr:=by
 have hm:=hG.meths _ (DV hf)
 rw[tU hv]
 exact Rz.pre (T:=λκ i=>aA W.M κ.A (callWith pos (.ref f) [.ref κ.x] (backTo pos (starEach args κ.env)) (backToKw pos (keywordEach aE κ.env)))) (λκ a i Q E hi R K=>U0 hm hs hl R (K a (Le.refl a) R) hi.2)
  (Rz.args (J:=J.and vA .ak) (λκ i=>vO (KL hm).2.2.2) ha dX hZ h λys ks st' h=>a_ h λF hF h=>Rz.fn (J:=((J.and vA .ak).and sA ys).and (kA W G pos aE) ks) (vals:=λκ i=> .ref κ.x::i.1.2) (hG.fns _ (vV hF)) h (λκ a i hi=>xb hi.1.2) λκ a i hi=>hi.2)
theorem Xf{vs:List V}{k:V→au}(h:Gv (yN vs k) rr){P:Prop}(K:∀v l t,vs=[v]→v.l?=ag l→gq l=ag t→short t=ae→Gv (k (.str t)) rr→P):P:=
 a_ h λv hv h=>a_ h λl hl h=>a_ h λt ht h=>bF h λhs h=>K v l t (dN hv) hl ht (aF hs).1 h
theorem Yz(dX:je W X G n)(hZ:lN W X G n){o:aw}{pos:Pos}{args:List aw}{v:V}(ha:gU args []=ae)(hv:v.s?=ag [])
 (h:Gv (dS G n args st (λvs st=>kW G n [] st (λks st=>yN vs λy=>k y st) x) x) rr):Rz X (J.and vA v) ae (λκ i=>mT DD o pos args [] κ i.2) st vA.p k x rr:=
 Rz.pre (J:=J.and vA v) (T:=λκ i=>aA W.M κ.A (callWith pos (.builtin "str.join") [i.2] (backTo pos (starEach args κ.env)) (backToKw pos (keywordEach [] κ.env)))) (λκ a i Q E hi R K=>get_join (dQ hv hi.2) (K a (Le.refl a) R))
  (Rz.args (J:=J.and vA v) (λκ i=>DH _) ha dX hZ h λys ks st' h=>Xf h λy l t e hl ht hs h=>Rz.leaf _ st' h λκ a i Q E hi R K=>⟨R.bX κ.hA.bX,join_one (R.fh κ.hA) hl ht hs (Kv.kv (kv K) R) (dQ hv hi.1.1.2) (e▸hi.1.2)⟩)
theorem acQ(hG:cb W X G)(bQ:eG W X G n)(dX:je W X G n)(hZ:lN W X G n){o:aw}{m:Str}{ap pos:Pos}{args:List aw}{aE:List Keyword}(ha:gU args aE=ae)(h:Gv (Tt (baseOk o&&aH ap.endLine pos.line) (Oe (placeOf G o st) (λp=>Tt (isNil aE) (Ob (lm m) λq=>dS G n args st (λvs st=>yV p q vs st k) x))
 (bc G n o st (λv st=>Ob (Hj G v m aE st) λq=>dS G n args st (λvs st=>kW G n aE st (λks st=>Oe q (λf=>Ob (gQ f G.fns) λF=>F (.ak::vs) ks st.self (wD st k x)) (yN vs λy=>k y st)) x) x) x))) rr):RE W X G J x rr st (.Call (.Attribute o m ap) args aE pos) k:=by
 refine bF h λhc h=>eC h (λp hp h=>bF h λhk h=>a_ h λq hq h1=>?_) λ_ h=>Rz.as (λκ i Q E s h=>methodCall_KW h (Hg hc ha)) (Rz.bind (F:=λκ i v=>mT m o pos args aE κ v) (bQ h) λv bj h=>a_ h λq hq h=>?_)
 ·cases c_ hk;exact YA hG dX ha hc hp hq h1
 ·refine gM hq (λhv hq=>aD hq λc hs hq=>dn hq (λ_ _ h=>no h) λhl hq=>aD hq λf hf hq=>?_) λ_ hq=>aD hq λz hz hq=>bK hq λhj hq=>?_
  ·rw[so hq]at h;exact YB hG dX hZ ha hv hs hl hf h
  ·rw[so hq]at h
   obtain⟨h1,h2⟩:=aF hj
   cases c_ (aF h2).2
   rw[c_ (aF h2).1]at hz
   rw[eN.mp h1]
   exact Yz dX hZ ha hz h
end
section
variable{W:Wd}{X:bU}{G:aX}{κ:aW W G}{a:Cf}{st st' :aq}{Q:ao→ay→Prop}{E:ao→ay→Prop}{n:Nat}{J:cD W G}{k:V→aq→au}{x:V→aq→au}{rr:R}{s:ay}{A:eK}{c:Act}{h h' :cG}{c1 c2 c3 r z cs:Cells}{p q:aQ×km}
theorem Hp.two(N:News c.h₀ c.L h (p::q::cs))(l1:∀p∈cs,p.1<q.1)(l2:q.1<p.1)(D:(cs.map (·.1)).Nodup):Hp c h (p::q::cs):=by
 refine⟨N,List.nodup_cons.mpr ⟨λhm=>?_,List.nodup_cons.mpr ⟨λhm=>?_,D⟩⟩⟩
 ·rcases List.mem_cons.mp hm with e|hm
  ·exact absurd e (Lu l2)
  ·obtain⟨t,ht,e⟩:=List.mem_map.mp hm
   have:=l1 t ht
   rw[e]at this
   exact Nat.lt_asymm this l2
 ·obtain⟨t,ht,e⟩:=List.mem_map.mp hm
  have:=l1 t ht
  rw[e]at this
  exact wh _ this
theorem Hp.QD(H:Hp c h ((p::q::c3)++((c2++r)++z))):Hp c h (c2++(r++(p::q::z))):=
 (H.sub (((pK c3 _).cons_cons q).cons_cons p)).perm (((tL.trans (tL.cons p)).trans (.of_eq (by rw[aR]))).symm)
theorem AZ{as:Args}(hA:il W c A):il W c (A.under (.builtin "type.__call__" as)):=⟨hA.below,hA.bX,hA.top,hA.frames,hA.kind⟩
theorem Mu{u D:Nat}(h:u+(D+1)<1000):u+1+D<1000:=by rw[eL,kq 1 D];exact h
theorem Mv{u k D:Nat}(hk:k≤8)(h:u+8*(D+1)<9800):u+k+8*D<9800:=lF (by rw[eL,kq k];exact c8 (c8 hk _) _) h
theorem Fg{C:aQ}{pos:List ao}{kw:List (Str×ao)}{D:Nat}(h0:0<D)(h:kI A D):kI (A.under (.builtin "type.__call__" ⟨.ref C::pos,kw⟩)) (D -1):=by
 obtain⟨D,rfl⟩:∃D',D=D' +1:=⟨D -1,(Nat.succ_pred_eq_of_pos h0).symm⟩
 exact⟨Mu h.1,Mv (k:=1) (by decide) h.2⟩
theorem Yq{x' dx:aQ}{C C' :aQ}{fs:FS}{gs:List (Str×V)}{fz:Cells}{m:Str→Option ao}{rest:Cells}{x:aQ}(hg:frozen fs=ag gs)(C:CR W ⟨λ_=>0,instObj C dx⟩ x' c m (ag (C',fs)) rest fz h):
 ∃p q,VR W (p::q::fz) x (.obj C' gs) (.ref x')∧(∀c2 r,rest=c2++r→Hp c h (c2++(r++(p::q::fz))))∧Fr c.h₀ c.L h m:=by
 obtain⟨c2,F,H,S⟩:=C
 obtain⟨d,es,n,c3,oc,od,on,le,z,R⟩:=(S:kJ _ _ _ _ _ _ _)
 refine bK hg λha hg=>aD hg λl hl hg=>bK hg λhn hg=>?_
 cases hg
 refine⟨_,_,.mk x' _ d es n (.inl (.head _)) oc od on (.inl (.tail _ (.head _))) ⟨⟨z.1,λa h=>z.2 a (IM hl h)⟩,(gd.re hn (IK hl ha λa y hy=>R.at_ hy)).up λp hp=> .tail _ (.tail _ hp)⟩,λc2 r e=>Hp.QD (c3:=c3) (e▸H),F⟩
theorem Rz.make{C fI:aQ}{F:Fn}{ys:List V}{ks:List (Str×V)}{vals:(κ:aW W G)→J.ι→List ao}{kvs:(κ:aW W G)→J.ι→List (Str×ao)}(hC:rh W.K C fI=ae∧0<G.dep∧bH W X (G.dep -1) G.quiet fI F)(na:d6 ys=ae)(nk:lA ks=ae)(h:Gv (F (.ak::ys) ks (ag (C,[])) (KA st k)) rr)
 (hv:∀κ a i,J.I κ a i→aS W a.fz κ.x ys (vals κ i)) (hw:∀κ a i,J.I κ a i→dW W a.fz κ.x ks (kvs κ i)):Rz X J ae (CT W G J (.ref C) vals kvs) st vA.p k x rr:=by
 obtain⟨hm,h0,hF⟩:=hC
 obtain⟨r',dC,HC,h⟩:=hF _ _ _ _ _ h
 cases r' with
 |exc y=>exact No h
 |ok y=>
  refine bF h λhy h=>a_ h λc hc h=>a_ h λgs hg h=>?_
  rw[lx hy,hc]at HC
  refine Rz.leaf _ _ h λκ a i Q E hi R K=>⟨R.bX κ.hA.bX,?_⟩
  obtain⟨m,c1,f,e,⟨c2,F,H,S⟩,L⟩:=R
  obtain⟨h1,h2,h3,h4⟩:=D_ hm
  refine call_cls F κ.hA.bX H.N h1 h2 h3 λx' dx h' F' N' dJ CV=>codeAny_mono (HC ⟨λ_=>0,instObj C dx⟩ x' κ.c _ m (c2++(c1++a.rest)) a.fz {a.s with heap:=h' } _ _ (AZ κ.hA) κ.quiet (Fg h0 κ.room) (.mk [(x',instObj C dx),(dx,dictOf [] 0)] F' ?_ (.mk dx [] 0 [] rfl rfl rfl (eF _) ⟨rfl,λ_ _=>rfl⟩ ⟨λh=>no h,λh=>no h⟩)) (xb (aS.re na (hv κ a i hi))) (dW.re nk (hw κ a i hi))) λres s' q=>?_
  ·rw[show[(x',instObj C dx),(dx,dictOf [] 0)]++((c2++(c1++a.rest))++a.fz)=(x',instObj C dx)::(dx,dictOf [] 0)::(c2++((c1++a.rest)++a.fz))from congrArg (λl=>_::_::l) (aR ..)]
   exact Hp.two N' dJ CV H.D
  ·obtain⟨v,bz,hf,hy,C',u⟩:=(q:COk _ _ _ _ _ _ _ _ _ _ _ _)
   obtain⟨p,q,la,hH,F2⟩:=Yq hg C'
   have hs:Sub a.fz (p::q::bz):=λt ht=> .tail _ (.tail _ (hf t ht))
   exact⟨hy,kv K ⟨a.π,a.rest,p::q::bz,s'⟩ _ ⟨λ_=>rfl,rfl,rfl,hs,cU.trans (.mk h' _) u⟩ la ⟨m,c1,f,e,⟨c2,F2,hH c2 _ rfl,S.up hs⟩,L.up hs (Sub.refl _)⟩⟩
end
section
variable{W:Wd}{X:bU}{G:aX}{κ:aW W G}{a:Cf}{st st' :aq}{Q:ao→ay→Prop}{E:ao→ay→Prop}{n:Nat}{J:cD W G}{k:V→aq→Option R}{x:V→aq→Option R}{rr:R}{s:ay}{fz:Cells}{z:aQ}{A:eK}
theorem xX{n:Nat}(h:n≤sizeLine):(n:Int)<2^63:=by
 rw[nY]at h
 omega
theorem XM{l:List Nat}(K:KV W fz z s (.int l.length) Q):∀{v:ao},cj l v→aA W.M A (call (.builtin "len") [v]) Q E s
 |_,.mk h t=>PyProof.Rows.len_str (by rw[kC];exact Int.not_le.mpr (xX (nY▸h))) (K _ _ (by rw[kC];exact bL.mk _))
theorem XJ{l:List V}(hg:dR W fz s)(h:short l=ae)(K:KV W fz z s (.int l.length) Q):∀{v:ao},cf W fz cM (aS W fz z l) v→aA W.M A (call (.builtin "len") [v]) Q E s
 |_,.mk d us n hA hu=>Calls.call_len_list (jR (hg _ _ hA)) (by rw[hu.size];exact xX (lK h)) (K _ _ (by rw[hu.size];exact bL.mk _))
theorem XN{l:List V}(hg:dR W fz s)(h:short l=ae)(K:KV W fz z s (.int l.length) Q):∀{v:ao},cf W fz fJ (aS W fz z l) v→aA W.M A (call (.builtin "len") [v]) Q E s
 |_,.mk d us n hA hu=>PyProof.Rows.len_tuple (rT (hg _ _ hA)) (by rw[hu.size];exact xX (lK h)) (K _ _ (by rw[hu.size];exact bL.mk _))
theorem Q5{i:Int}(h0:0≤i)(h1:i<1114112)(K:KV W fz z s (.str [i.toNat]) Q):∀{v:ao},bL i v→aA W.M A (call (.builtin "chr") [v]) Q E s
 |_,.mk t=>P.chr_of_int (Bool.or_eq_false_iff.mpr ⟨decide_eq_false (Int.not_lt.mpr h0),decide_eq_false (Int.not_lt.mpr (Int.le_of_lt_add_one h1))⟩) (K _ _ (cj.mk (bw rfl) _))
theorem WL{l:List Nat}{i:Int}(hl:aJ l.length 640=ae)(h:PySem.intText? ⟨l.toArray⟩=ag i)(K:KV W fz z s (.int i) Q):∀{v:ao},cj l v→aA W.M A (call (.type "int") [v]) Q E s
 |_,.mk _ t=>KIN.call_text h (by rw[kC];exact bw hl) (K _ _ (bL.mk _))
theorem WH{l:List Nat}{n:Nat}(h:vU l yt=ag n)(K:KV W fz z s (.int (n:Nat)) Q):∀{v u:ao},cj l v→bL 16 u→aA W.M A (call (.type "int") [v,u]) Q E s
 |_,_,.mk _ t,.mk _=>QV (VA _ (XY h)) (K _ _ (bL.mk _))
theorem W4{l:List Nat}(K:KV W fz z s (.bool ae) Q):∀{v:ao},cj l v→aA W.M A (call (.builtin "isinstance") [v,.type "str"]) Q E s
 |_,.mk _ t=>IsiPair.str_str (K _ s.toks (rfl:VR _ _ _ (.bool _) _))
theorem WE{C D:aQ}{b:Bool}{r:List DictEntry→Prop}(hk:W.K.In s.heap)(hg:dR W fz s)(h:Dv W.K C D b=ae)(K:KV W fz z s (.bool b) Q):∀{v:ao},oy W fz C r v→aA W.M A (call (.builtin "isinstance") [v,.ref D]) Q E s
 |_,.mk d o dd es n h1 c e on h2 _=>by
  have I:InstAt s.heap d o C (ag (dictOf es n)):=⟨hg _ _ h1,c,on,by rw[e];exact hg _ _ h2⟩
  cases b with
  |true=>exact isi_call hk (λM=>I.type) h (by intro e;cases e) (K _ s.toks (rfl:VR _ _ _ (.bool _) _))
  |false=>
   obtain⟨h1,h⟩:=aF h
   obtain⟨h2,h⟩:=aF h
   obtain⟨h3,h⟩:=aF h
   obtain⟨h4,h⟩:=aF h
   obtain⟨h5,h⟩:=aF h
   obtain⟨h6,h7⟩:=aF h
   exact kin_callC hk I h1 h2 h3 (beq_iff_eq.mp h4) (beq_iff_eq.mp h5) (beq_iff_eq.mp h6) (beq_iff_eq.mp h7) (K _ _ (rfl:VR _ _ _ (.bool _) _))
theorem Yy{i j:Int}(hq:κ.A.handled=bg)(R:Rl W κ st a)(K:Kv κ st (.int (br (ltI i j) j i)) a Q):∀{v u:ao},bL i v→bL j u→aA W.M κ.A (call (.builtin "max") [v,u]) Q E a.s
 |_,_,.mk t,.mk t' =>max_two_ints hq λh' tk hk=>by
  refine K (a.to {a.s with heap:=h',toks:=tk}) _ (Le.to (.mk _ _)) ?_ (R.keeps hk)
  show VR _ _ _ (.int (br (decide (i<j)) j i)) _
  by_cases q:i<j
  ·rw[decide_eq_true q,if_pos q];exact bL.mk _
  ·rw[decide_eq_false q,if_neg q];exact bL.mk _
inductive GC(p:ao→Prop):List ao→Prop
 |mk (v:ao) (h:p v):GC p [v]
inductive GJ(p q:ao→Prop):List ao→Prop
 |mk (v u:ao) (h:p v) (h' :q u):GJ p q [v,u]
theorem FY{y:V}:∀{vs:List ao},aS W fz z [y] vs→GC (VR W fz z y) vs
 |_,.mk v _ h rfl=> .mk v h
theorem Ay{y y' :V}:∀{vs:List ao},aS W fz z [y,y'] vs→GJ (VR W fz z y) (VR W fz z y') vs
 |_,.mk v _ h (.mk u _ h' rfl)=> .mk v u h h'
theorem J4{v:V}{l:List V}(h:DA v=ag l):v.l?=ag l∨v.t?=ag l:=by
 cases v<;>first|exact no h|exact .inl h|exact .inr h
theorem P6(hG:cb W X G){b:Bi}{ys:List V}{y:V}(e:gh G b ys=ag y)(R:Rl W κ st a)(K:Kv κ st y a Q){vs:List ao}(hv:aS W a.fz κ.x ys vs):aA W.M κ.A (call b.val vs) Q E a.s:=by
 have hg:=R.fh κ.hA
 cases b with
 |len=>
  refine aD e λv la e=>?_
  rw[dN la]at hv
  obtain⟨u,hu⟩:=FY hv
  refine dn e (λl hl e=>?_) λ_ e=>aD e λl hl e=>bK e λhs e=>?_
  ·rw[so e]at K;exact XM (K.kv R) (dQ hl hu)
  ·rw[so e]at K
   rcases J4 hl with hl|hl
   ·exact XJ hg hs (K.kv R) (jS hl hu)
   ·exact XN hg hs (K.kv R) (rU hl hu)
 |chr=>
  refine aD e λv la e=>aD e λi hi e=>bK e λh e=>?_
  rw[dN la]at hv
  obtain⟨u,hu⟩:=FY hv
  rw[so e]at K
  exact Q5 (pn (aF h).1) (jT (aF h).2) (K.kv R) (dF hi hu)
 |int=>
  refine dn e (λv la e=>aD e λl hl e=>bK e λh e=>aD e λi hi e=>?_) λ_ e=>aD e λq hq e=>aD e λl hl e=>aD e λi hi e=>bK e λh e=>aD e λm hm e=>?_
  ·rw[dN la]at hv
   obtain⟨u,hu⟩:=FY hv
   rw[so e]at K
   exact WL h hi (K.kv R) (dQ hl hu)
  ·rw[oa hq]at hv
   obtain⟨u,w,hu,hw⟩:=Ay hv
   rw[so e]at K
   rw[oQ.mp h]at hi
   exact WH hm (K.kv R) (dQ hl hu) (dF hi hw)
 |Dy=>
  refine aD e λq hq e=>dn e (λl hl e=>aD e λb hb e=>?_) λ_ e=>aD e λc hc e=>aD e λD hD e=>?_
  ·rw[oa hq]at hv
   obtain⟨u,w,hu,hw⟩:=Ay hv
   rw[Bk hb]at hw
   cases b<;>first|exact no e|skip
   rw[so e]at K
   rw[(hw:w=_)]
   exact W4 (K.kv R) (dQ hl hu)
  ·rw[oa hq]at hv
   obtain⟨u,w,hu,hw⟩:=Ay hv
   rw[Na hD]at hw
   cases D<;>first|exact no e|skip
   rw[Eu hc]at hu
   refine aD e λd hd e=>?_
   rw[so e]at K
   rw[(hw:w=_∧_).1]
   exact WE (R.bX κ.hA.bX) hg (hG.insts _ (XX hd)) (K.kv R) (hu:oy _ _ _ _ _)
 |max=>
  refine aD e λq hq e=>aD e λi hi e=>aD e λj hj e=>bK e λh e=>?_
  rw[oa hq]at hv
  obtain⟨u,w,hu,hw⟩:=Ay hv
  rw[so e]at K
  exact Yy (κ.quiet h) R K (dF hi hu) (dF hj hw)
 |_=>exact no e
theorem aS.ints:∀{l:List Int}{vs:List ao},vs.length=l.length→(∀(j:Nat) v,vs[j]?=ag v→∃k,l[j]?=ag k∧bL k v)→aS W fz z (l.map V.int) vs
 | [],[],_,_=>rfl
 | [],_::_,h,_=>by cases h
 |_::_,[],h,_=>by cases h
 |i::l,v::vs,h,k=>by
  obtain⟨i',e,r⟩:=k 0 v rfl
  cases e
  exact dH.mk (p:=bL i) _ _ r (aS.ints (Nat.succ.inj h) λj v hv=>k (j+1) v hv)
theorem XK{p:Pl}{l:List V}(hl:p.get st=ag l)(h:short l=ae)(R:Rl W κ st a)(K:KV W a.fz κ.x a.s (.int l.length) Q):aA W.M κ.A (call (.builtin "len") [.ref (p.addr a.π)]) Q E a.s:=by
 obtain⟨vs,n,g,hv,_⟩:=R.place hl
 exact Calls.call_len_list (jR g) (by rw[hv.size];exact xX (lK h)) (K _ _ (by rw[hv.size];exact bL.mk _))
theorem XR{nm:Str}{kvs:List (Int×V)}{d:aQ}{t:Nat}(hq:κ.A.handled=bg)(hl:aJ kvs.length 1000=ae)(R:Rl W κ st a)(hd:ou W κ.x κ.c st a nm kvs d)(K:Kv κ st (.lst (kvs.map λp=> .int p.1)) a Q):aA W.M κ.A (call (.type "list") [.ref d]) Q E {a.s with toks:=t}:=by
 obtain⟨kv,hD,hk,z⟩:=hd.dict
 obtain⟨ep,Vp⟩:=hD.dictAt
 refine kdl_call (s:={a.s with toks:=t}) (kdl_dict (knd:=intKind W.prog W.w) (kvs:=kv) (ep:=ep) z) hq Vp (by rw[hk.length];exact wN hl) λh' tk us cc keep g it=>?_
 refine K (a.fr (a.s.heap.objs.size,cM us cc) {a.s with heap:=h',toks:=tk}) _ (Le.fr (.mk _ _)) (cf.mk _ us cc (.here _ _) ?_) (R.made (tP _) g keep)
 rw[show(kvs.map λp=>V.int p.1)=(kvs.map (·.1)).map V.int by rw[Ly];rfl,←hk.names]
 refine aS.ints (by rw[tH,it.1,e_]) λj u hu=>?_
 obtain⟨k0,x0,e0,e1⟩:=it.2 j u (by rw[←zM];exact hu)
 obtain⟨t',rfl⟩:=Value.isInt_shape e1
 exact⟨k0,by rw[zw,e0];rfl,.mk t'⟩
end
section
variable{W:Wd}{X:bU}{G:aX}{κ:aW W G}{a:Cf}{st st' :aq}{Q:ao→ay→Prop}{E:ao→ay→Prop}{n:Nat}{J:cD W G}{k:V→aq→au}{x:V→aq→au}{rr:R}{s:ay}{fz:Cells}{z:aQ}{A:eK}
abbrev cT{W:Wd}{G:aX}(pos:Pos)(args:List aw)(aE:List Keyword)(κ:aW W G)(v:ao):Tr ao:=aA W.M κ.A (callWith pos v [] (backTo pos (starEach args κ.env)) (backToKw pos (keywordEach aE κ.env)))
theorem z8{v:V}{f:aQ}(h:refOf v=ag f)(hv:VR W fz z v u):u=.ref f:=aD h λw hw h=>by
 cases w<;>first|exact no h|skip
 rw[Na hw]at hv
 rw[so h];exact(hv:_∧_).1
theorem QY(hG:cb W X G)(dX:je W X G n)(hZ:lN W X G n){f:aQ}{v:V}{pos:Pos}{args:List aw}{aE:List Keyword}(ha:gU args aE=ae)(hf:refOf v=ag f)(hk:(k9 f G.fns||k9 f G.ctors)=ae)
 (h:Gv (dS G n args st (λvs st=>kW G n aE st (λks st=>Bx G f vs ks st k x) x) x) rr):Rz X (J.and vA v) ae (λκ i=>cT pos args aE κ i.2) st vA.p k x rr:=by
 have kept:Kept W (.ref f):=by
  rcases Bool.or_eq_true_iff.mp hk with e|e
  ·obtain⟨v,hv⟩:=yp e;exact vO (hG.keeps _ hv)
  ·obtain⟨v,hv⟩:=yp e;exact vO (D_ (hG.ctors _ hv).1).2.2.2
 refine Rz.pre (J:=J.and vA v) (T:=λκ i=>cT pos args aE κ (.ref f)) (λκ a i Q E hi R K=>by rw[z8 hf hi.2];exact K a (Le.refl a) R) (Rz.args (J:=J.and vA v) (λκ i=>kept) ha dX hZ h λys ks st' h=>eC h (λF hF h=>?_) λ_ h=>a_ h λq hq h=>bF h λhn h=>?_)
 ·exact Rz.fn (J:=((J.and vA v).and sA ys).and (kA W G pos aE) ks) (hG.fns _ (vV hF)) h (λκ a i hi=>hi.1.2) λκ a i hi=>hi.2
 ·exact Rz.make (J:=((J.and vA v).and sA ys).and (kA W G pos aE) ks) (hG.ctors _ (vV hq)) (aF hn).1 (aF hn).2 h (λκ a i hi=>hi.1.2) λκ a i hi=>hi.2
theorem aaU(hG:cb W X G){b:Bi}{args:List aw}{y:Bool×V}{pos:Pos}(ha:gU args []=ae)(e:Bj G b args st=ag y)(hc:y.1=ae)(R:Rl W κ st a)(K:Kv κ st y.2 a Q):cT pos args [] κ b.val Q E a.s:=by
 obtain⟨hu,hw,_⟩:=tK ha
 have go:∀e,args=[e]→aA W.M κ.A (eval e κ.env) (λv cu=>W.K.In cu.heap∧aA W.M κ.A (call b.val [v]) Q E cu) E a.s→cT pos args [] κ b.val Q E a.s:=λe he H=>by
  rw[he]at hu⊢
  exact callWith_of (P:=W.K.In) (by rw[(rQ hu).2,(ph hw).2];rfl) (DG b) (sC hu hw (args_cons (iK H (λv cu h=>args_nil (kwAll_nil h)) λ_ _ h=>h) (An (Aw hu).1 [] κ.env)))
 cases b<;>first|exact no e|skip
 ·refine aD e λe1 h1 e=>aD e λp hp e=>aD e λl hl e=>?_
  cases so e
  have hs:=hc
  exact go e1 (dN h1) (EZ hG hp R λt=>⟨R.bX κ.hA.bX,XK (a:=a.to {a.s with toks:=t}) hl hs (R.tok t) ((K.up (Le.to (.mk _ t))).kv (R.tok t))⟩)
 ·refine aD e λe1 h1 e=>aD e λq hq e=>?_
  cases so e
  have hs:=hc
  exact go e1 (dN h1) (qY hG hq R λd t hd=>⟨R.bX κ.hA.bX,XR (κ.quiet (aF hs).1) (aF hs).2 R hd K⟩)
theorem acR(hG:cb W X G)(bQ:eG W X G n)(dX:je W X G n)(hZ:lN W X G n){id:Str}{np pos:Pos}{args:List aw}{aE:List Keyword}(ha:gU args aE=ae)
 (h:Gv (bc G n (.Name id np) st (λv st=>Oe (refOf v) (λf=>Tt (k9 f G.fns||k9 f G.ctors) (dS G n args st (λvs st=>kW G n aE st (λks st=>Bx G f vs ks st k x) x) x))
  (Ob v.qm λb=>Tt (isNil aE) (Oe (Bj G b args st) (λy=>Tt y.1 (k y.2 st)) (dS G n args st (λvs st=>Ob (gh G b vs) λy=>k y st) x)))) x) rr):RE W X G J x rr st (.Call (.Name id np) args aE pos) k:=by
 refine Rz.as (λκ i Q E s=>wpAny_Call_Name_kw) (Rz.bind (F:=λκ i v=>cT pos args aE κ v) (bQ h) λv bj h=>eC h (λf hf h=>bF h λhk h=>QY hG dX hZ ha hf hk h) λ_ h=>a_ h λb hb h=>bF h λhk h=>?_)
 cases c_ hk
 rw[Bk hb]
 refine eC h (λy hy h=>bF h λhc h=>Rz.leaf y.2 bj h λκ a i Q E hi R K=>?_) λ_ h=>?_
 ·rw[show i.2=b.val from hi.2];exact aaU hG ha hy hc R (kv K)
 ·exact Rz.pre (J:=J.and vA (.bi b)) (T:=λκ i=>cT pos args [] κ b.val) (λκ a i Q E hi R K=>by rw[show i.2=b.val from hi.2];exact K a (Le.refl a) R) (Rz.GN (J:=J.and vA (.bi b)) (λκ i=>DG b) ha dX h λys st' h=>a_ h λy hy h=>Rz.leaf y st' h λκ a i Q E hi R K=>⟨R.bX κ.hA.bX,P6 hG hy R (kv K) hi.2⟩)
end
section
variable{W:Wd}{fz:Cells}{z:aQ}{s:ay}
inductive AX(W:Wd)(fz:Cells)(z:aQ)(d:aQ):V→Prop
 |mk (l:List V) (vs:Array ao) (n:Nat) (h:W.At fz d (fJ vs n)) (k:aS W fz z l vs.toList) (r:jZ l=ae):AX W fz z d (.tup l)
def Pq(W:Wd)(fz:Cells)(z:aQ)(v:ao)(b:V):Prop:=match v with
 |.none=>b=.none
 |.bool c=>b=.bool c
 |.int i _=>b=.int i
 |.str s _=>b=.str s.cps.toList
 |.ref d=>AX W fz z d b
 |_=>False
theorem wJ:∀{b:V}{v:ao},lJ b=ae→VR W fz z b v→Pq W fz z v b
 |.none,_,_,rfl=>rfl
 |.bool _,_,_,rfl=>rfl
 |.int _,_,_,.mk _=>rfl
 |.str _,_,_,.mk _ _=>rfl
 |.tup _,_,r,.mk _ vs n h k=> .mk _ vs n h k r
 |.lst _,_,r,_=>nt r
 |.obj _ _,_,r,_=>nt r
 |.ak,_,r,_=>nt r
 |.junk,_,r,_=>nt r
 |.bi _,_,r,_=>nt r
 |.eV _,_,r,_=>nt r
 |.tab _,_,r,_=>nt r
mutual
theorem VR.inj(hg:dR W fz s):∀{a b:V}{v:ao},lJ a=ae→lJ b=ae→VR W fz z a v→VR W fz z b v→a=b
 |.none,_,_,_,h,rfl,k=>((wJ h k:_=_)).symm
 |.bool _,_,_,_,h,rfl,k=>((wJ h k:_=_)).symm
 |.int _,_,_,_,h,.mk _,k=>((wJ h k:_=_)).symm
 |.str _,_,_,_,h,.mk _ _,k=>((wJ h k:_=_)).symm
 |.tup _,_,_,r,h,.mk d vs n e q,k=>by
  obtain⟨l,us,m,e',q',r'⟩:=(wJ h k:AX _ _ _ _ _)
  have:=(hg _ _ e).symm.trans (hg _ _ e')
  rw[←NM (fX this)]at q'
  rw[aS.inj hg r r' q q']
 |.lst _,_,_,r,_,_,_=>nt r
 |.obj _ _,_,_,r,_,_,_=>nt r
 |.ak,_,_,r,_,_,_=>nt r
 |.junk,_,_,r,_,_,_=>nt r
 |.bi _,_,_,r,_,_,_=>nt r
 |.eV _,_,_,r,_,_,_=>nt r
 |.tab _,_,_,r,_,_,_=>nt r
theorem aS.inj(hg:dR W fz s):∀{a b:List V}{v:List ao},jZ a=ae→jZ b=ae→aS W fz z a v→aS W fz z b v→a=b
 | [],[],_,_,_,_,_=>rfl
 |_::_,_::_,_,r,h,.mk _ _ e q,.mk _ _ e' q' =>by rw[VR.inj hg (aF r).1 (aF h).1 e e',aS.inj hg (aF r).2 (aF h).2 q q']
 | [],_::_,_,_,_,rfl,k=>nomatch(k:dH _ _ _)
 |_::_,[],_,_,_,k,rfl=>nomatch(k:dH _ _ _)
end
theorem Mr{l:List V}:∀{i:Nat}{y:V},jZ l=ae→l[i]?=ag y→lJ y=ae:=by
 induction l with
 |nil=>intro i y _ h;cases h
 |cons a l ih=>
  intro i y hr h
  cases i with
  |zero=>cases h;exact(aF hr).1
  |succ i=>exact ih (aF hr).2 h
end
theorem Ys{elt:aw}{id:Str}{l:List V}:∀{ys:List V},pE elt id l=ag ys→ys.length=l.length:=by
 induction l with
 |nil=>intro ys h;rw[so h]
 |cons a l ih=>intro ys h;exact aD h λy hy h=>aD h λt ht h=>by rw[so h];exact congrArg Z5 (ih ht)
theorem Ea{elt:aw}{id:Str}{l:List V}:∀{ys:List V}{i:Nat}{y:V},pE elt id l=ag ys→l[i]?=ag y→∃z,ys[i]?=ag z∧oR 20 elt [(id,y)]=ag z:=by
 induction l with
 |nil=>intro ys i y _ h;cases h
 |cons a l ih=>
  intro ys i y h e
  refine aD h λw hw h=>aD h λt ht h=>?_
  cases so h
  cases i with
  |zero=>cases e;exact⟨w,rfl,hw⟩
  |succ i=>exact ih (i:=i) ht e
theorem uD{f:Str→NameKind→Bool}{l:List (Str×NameKind)}(h:kL f l=ae):∀p∈l,f p.1 p.2=ae:=by
 induction l with
 |nil=>intro p hp;cases hp
 |cons q r ih=>
  intro p hp
  rcases List.mem_cons.mp hp with rfl|hp
  ·exact(aF h).1
  ·exact ih (aF h).2 p hp
structure uh(sc:Scope)(id:Str):Prop where
 free:∀y∈sc.names,y.2≠ .free
 cell:∀y∈sc.names,y.2≠ .cell
 kind:sc.kind=.function
 loc:∀y∈sc.names,y.2=.local→sc.names.lookup y.1=ag .local
 id:sc.names.lookup id=ag .local
theorem BC{sc:Scope}{id:Str}(h:qt sc id=ae):uh sc id:=by
 obtain⟨h1,h⟩:=aF h
 obtain⟨h2,h⟩:=aF h
 obtain⟨h3,h4⟩:=aF h
 refine⟨λy hy e=>?_,λy hy e=>?_,?_,λy hy e=>?_,?_⟩
 ·have:=uD h2 y hy;rw[e]at this;exact nt this
 ·have:=uD h2 y hy;rw[e]at this;exact nt this
 ·unfold yh at h1
  cases q:sc.kind<;>rw[q]at h1<;>first|rfl|exact nt h1
 ·have:=uD h3 y hy
  rw[e]at this
  rw[←l9]
  exact yF this
 ·rw[←l9];exact yF h4
section
variable{W:Wd}{X:bU}{G:aX}{κ:aW W G}{a:Cf}{st st' :aq}{Q:ao→ay→Prop}{E:ao→ay→Prop}{n:Nat}{s:ay}{fz:Cells}{z:aQ}{A:eK}{x:aQ}
theorem JN{e:aw}{i:Int}(h:intOf e=ag i):∃u p,e=.Constant (.int i) u p:=by
 cases e with
 |Constant c u p=>cases c<;>first|exact no h|exact⟨u,p,by rw[so h]⟩
 |_=>exact no h
theorem ZQ{l:List V}{i:Int}{y:V}(h:nC l i=ag y):bx (.tup l) (.int i)=ag y:=h
theorem Su{id:Str}{sc:Scope}{env:Env}{C:aQ}(o:uh sc id)(Vw:(id==("__debug__":Str))=af){y:V}{v:ao}:∀(n:Nat){e:aw}{z:V},oR n e [(id,y)]=ag z→
 ∀{s:ay}{m:Str→Option ao}{Q:ao→ay→Prop}{E:ao→ay→Prop},dR W fz s→VR W fz x y v→s.heap.Ns C m→m id=ag v→KV W fz x s z Q→aA W.M A (eval e (compEnv sc C env)) Q E s:=by
 intro n
 induction n with
 |zero=>intro e z h;exact no h
 |succ n ih=>
  intro e z h s m Q E hg hv hn hm K
  cases e with
  |Constant cst u pos=>
   refine aD h λi hi h=>?_
   obtain⟨u,p,e⟩:=JN hi
   cases e
   rw[so h]at K
   exact wpAny_Constant_int (K _ _ (bL.mk _))
  |Name JB pos=>
   have h:(match seq JB id with|true=>ag y|false=>bg)=ag z:=h
   cases q:seq JB id with
   |false=>rw[q]at h;exact no h
   |true=>
    rw[q]at h
    rw[so h]at K
    rw[eN.mp q]
    exact wpAny_Name (wpAny_loadName_local (by exact o.kind) o.id hn hm (K v s.toks hv)) Vw
  |BinOp l op r pos=>exact aD h λa ha h=>aD h λb hb h=>wpAny_BinOp (ih ha hg hv hn hm λva t m7=>ih (s:={s with toks:=t}) hb hg hv hn hm λvb t' Dn=>xA (s:={s with toks:=t' }) h m7 Dn λu wW hu=>K u wW hu)
  |Subscript o i pos=>
   refine aD h λi hi h=>aD h λw hw h=>aD h λl hl h=>?_
   obtain⟨u,p,e⟩:=JN hi
   rw[e]
   exact Subscript_ (ih hw hg hv hn hm λva t m7=>wpAny_Constant_int (J3 (b:=w) (i:=.int i) (s:={s with toks:=t+1}) hg (by rw[wX hl];exact ZQ h) m7 (bL.mk _) (λu t' hu=>K u t' hu) λ_ _=>rfl))
  |_=>exact no h
end
section
variable{W:Wd}{X:bU}{G:aX}{κ:aW W G}{a:Cf}{st st' :aq}{Q:ao→ay→Prop}{E:ao→ay→Prop}{n:Nat}{s:ay}{fz:Cells}{z:aQ}{A:eK}{x:V→aq→au}{J:cD W G}{k:V→aq→au}{rr:R}
theorem Em{e:aw}{env:Env}(h:ng e=ae)(v:ao):foldedSetIterable e env v=pure v:=by cases e<;>first|rfl|exact nt h
section
variable{vs:Array ao}{l ys:List V}{elt:aw}{id:Str}(hg:dR W fz s)(hr:jZ l=ae)(hl:aS W fz z l vs.toList)(hm:pE elt id l=ag ys)
include hg hr hl hm
theorem Ra{v:ao}{i j:Nat}{Y:V}(e1:vs[j]?=ag v)(e2:vs[i]?=ag v)(hY:ys[i]?=ag Y):ys[j]?=ag Y:=by
 obtain⟨h1,e1⟩:=Array.getElem?_eq_some_iff.mp e1
 obtain⟨h2,e2⟩:=Array.getElem?_eq_some_iff.mp e2
 obtain⟨y1,g1,r1⟩:=hl.at h1
 obtain⟨y2,g2,r2⟩:=hl.at h2
 rw[e1]at r1
 rw[e2]at r2
 cases VR.inj hg (Mr hr g1) (Mr hr g2) r1 r2
 obtain⟨z1,h1,w1⟩:=Ea hm g1
 obtain⟨z2,h2,w2⟩:=Ea hm g2
 rw[h1,fX (w1.symm.trans w2),←h2,hY]
theorem Rb{us:List ao}{fu:List ao}(h:Paired (λv u=>∃(i:Nat)(Y:V),vs[i]?=ag v∧ys[i]?=ag Y∧VR W fz z Y u) fu us):∀j,(∀i v,fu[i]?=ag v→vs[j+i]?=ag v)→fu.length+j=l.length→aS W fz z (ys.drop j) us:=by
 induction h with
 |nil=>
  intro j _ e
  rw[Lo (by rw[Ys hm,←e,pN,fY];exact eF _)]
  exact rfl
 |cons q _ ih=>
  intro j hi e
  obtain⟨i,Y,e1,e2,hY⟩:=q
  obtain⟨hj,e3⟩:=List.getElem?_eq_some_iff.mp (Ra hg hr hl hm (hi 0 _ rfl) e1 e2)
  rw[Ll (show j<ys.length from hj),show ys[j]=Y from e3]
  exact dH.mk _ _ hY (ih (j+1) (λk w hw=>by have:=hi (k+1) w hw;rwa [kq k 1,←eL]at this) (by rw[←e,lE,eL,kq 1 j]))
end
theorem aan{α β:Type}{F:α→β→Prop}{l:List α}{r:List β}(h:Paired F (l.filter λ_=>ae) r):Paired F l r:=by
 rwa [List.filter_eq_self.mpr λ_ _=>rfl]at h
def aeO(κ:aW W G)(sc:Scope)(id:Str)(elt:aw)(va:ao)(RR:aQ→aQ→(Str→Option ao)→ay→Prop)(E:ao→ay→Prop)(s:ay):Prop:=∃F,aA W.M κ.A (pyIter va) (λit bV=>∃I fp wr n P St,it=.ref I∧Walks W.prog W.w κ.A I fp wr n P St∧n≤sizeLine∧St 0 bV.heap∧(∀b∈fp,b<bV.heap.objs.size)∧
 QuietOn W.prog W.w κ.A κ.env sc id [] elt wr P (λ_=>ae) F bV∧
 (∀D C h' tk m' us(vs:List ao),bV.heap.get? D=bg→bV.heap.get? C=bg→D≠C→h'.Ns C m' →h'.PlainList D us→vs.length=n→(∀j v,vs[j]?=ag v→P j v)→Paired F (vs.filter λ_=>ae) us.toList→
  (∀b o,b∉wr→bV.heap.get? b=ag o→h'.get? b=ag o)→RR D C m' {bV with heap:=h',toks:=tk})) E s
def I1(Q:ao→ay→Prop)(D C:aQ)(m:Str→Option ao)(s:ay):Prop:=s.heap.Ns C m∧∀h',pL C s.heap h' →Q (.ref D) {s with heap:=h' }
theorem Q_{elt iter:aw}{id:Str}{px pos:Pos}{sc:Scope}(o:uh sc id)(hi:ng iter=ae)(h:aA W.M κ.A (eval iter κ.env) (λva cu=>aeO κ sc id elt va (I1 Q) E cu) E s):aA W.M κ.A (eval (.ListComp elt [⟨.Name id px,iter,[],0⟩] sc pos) κ.env) Q E s:=by
 refine wpAny_ListComp o.free o.kind o.loc (iK h (λva cu cV=>?_) λ_ _ e=>e) (Em hi)
 obtain⟨F,cV⟩:=cV
 refine iK cV (λit bV hW=>?_) λ_ _ e=>e
 obtain⟨I,fp,wr,n,P,St,rfl,Wk,gP,qQ,qN,hq,hQ⟩:=hW
 exact comp_block_walk (RR:=λacc mK r s' =>∃m,s'.heap.Ns mK.locals m∧∀h',pL mK.locals s'.heap h' →
  match r with|.ok _=>Q acc {s' with heap:=h' }|.error x=>aA W.M κ.A (passOn "comprehension.variables-let-go" x mK) Q E {s' with heap:=h' }) Wk gP _ F o.cell o.kind o.id qQ qN hq
  λD C h' tk m' ys vs hD hC i4 hn hl qP hlen hP hF hk=>let⟨a,b⟩:=hQ D C h' tk m' ys vs hD hC i4 hn qP hlen hP hF hk;⟨m',a,b⟩
theorem BD{elt:aw}{id:Str}{sc:Scope}{l ys:List V}{RR:aQ→aQ→(Str→Option ao)→ay→Prop}(o:uh sc id)(Vv:(id==("__debug__":Str))=af)(hh:κ.A.handled=bg)(hr:jZ l=ae)(hs:short l=ae)(hm:pE elt id l=ag ys)(R:Rl W κ st a)
 (K:∀D C h' tk m' us cc,D≠C→a.s.heap.get? D=bg→a.s.heap.get? C=bg→h'.Ns C m' →h'.get? D=ag (cM us cc)→aS W a.fz κ.x ys us.toList→(∀b o,a.s.heap.get? b=ag o→h'.get? b=ag o)→RR D C m' {a.s with heap:=h',toks:=tk}):∀{va:ao},cf W a.fz cM (aS W a.fz κ.x l) va→aeO κ sc id elt va RR E a.s
 |_,.mk d vs n h hv=>by
  have hg:=R.fh κ.hA
  have hl:=jR (hg _ _ h)
  have dJ:d<a.s.heap.objs.size:=ru (hg _ _ h)
  have keep:∀{h' :cG}{oi:km},(∀b o,b∉[a.s.heap.objs.size]→(a.s.heap.push oi).get? b=ag o→h'.get? b=ag o)→∀b o,a.s.heap.get? b=ag o→h'.get? b=ag o:=λk b o e=>k b o (λhm=>absurd (ru e) (by rw[List.mem_singleton.mp hm];exact wh _)) (nF _ e)
  refine⟨λv u=>∃(i:Nat)(Y:V),vs[i]?=ag v∧ys[i]?=ag Y∧VR W a.fz κ.x Y u,wpAny_pyIter_list hl ⟨_,[_,_],[_],vs.size,λi v=>vs[i]?=ag v,_,rfl,Walks.list hh _ d (nK dJ) vs,by rw[hv.size];exact lK hs,⟨⟨_,kr _ rfl,rfl,rfl⟩,hl.at λo e=>nF _ e⟩,λb hb=>?_,⟨λC i v iM YD E' hP hn yw hk V8=>dv ⟨rfl,iM.heap,iM.toks,rfl,λ_ _ e=>e⟩,λC i v iM YD E' hP _ hn yw hk V8=>?_⟩,λD C h' tk m' us fu hD hC i4 hn hp hlen hP hF hk=>?_⟩⟩
  ·show b<(a.s.heap.push _).objs.size
   rw[zD]
   rcases List.mem_cons.mp hb with rfl|hb
   ·exact Lq _
   ·rw[List.mem_singleton.mp hb];exact Nat.lt_succ_of_lt dJ
  ·obtain⟨h1,e1⟩:=Array.getElem?_eq_some_iff.mp hP
   obtain⟨y,e2,hy⟩:=hv.at h1
   obtain⟨z,z1,z2⟩:=Ea hm e2
   rw[e1]at hy
   exact Su o Vv 20 z2 (λa o h=>keep hk a o (hg a o h)) hy hn yw λu t hu=>⟨⟨i,z,hP,z1,hu⟩,iM.heap,t,rfl,λ_ _ e=>e⟩
  ·obtain⟨cc,hp⟩:=hp
   have free:∀{b:aQ},(a.s.heap.push {cls:=.type "list_iterator",data:=.fields #[.ref d,.int 0 0]}).get? b=bg→a.s.heap.get? b=bg:=λ{b} e=>by
    cases q:a.s.heap.get? b with
    |none=>rfl
    |some ob=>rw[nF _ q]at e;cases e
   have:=Rb hg hr hv hm (aan hF) 0 (λi v hv=>by rw[fY];exact hP i v hv) (by rw[hlen,hv.size];rfl)
   rw[LF]at this
   exact K D C h' tk m' us cc i4 (free hD) (free hC) hn hp this (keep hk)
theorem Yp{D C:aQ}{h' o9:cG}{us:Array ao}{cc tk:Nat}{ys:List V}(i4:D≠C)(hD:a.s.heap.get? D=bg)(hC:a.s.heap.get? C=bg)(hp:h'.get? D=ag (cM us cc))(hv:aS W a.fz κ.x ys us.toList)(keep:∀b o,a.s.heap.get? b=ag o→h'.get? b=ag o)(hs:pL C h' o9)(R:Rl W κ st a)(K:Kv κ st (.lst ys) a Q):Q (.ref D) {a.s with heap:=o9,toks:=tk}:=
 K (a.fr (D,cM us cc) {a.s with heap:=o9,toks:=tk}) _ (Le.fr (.mk _ _)) (cf.mk _ us cc (.here _ _) (hv.up (Sub.cons _ _))) (R.made hD (hs.extBut D _ i4 hp) λb o e=>hs.extBut b o (λq=>by rw[q,hC]at e;cases e) (keep b o e))
theorem UX{g:Comprehension}{q:Str×aw}(h:IW g=ag q):∃px,g=⟨.Name q.1 px,q.2,[],0⟩:=aD h λid gn h=>bK h λhc h=>by
 cases so h
 obtain⟨px,e⟩:=ly gn
 obtain⟨h2,h3⟩:=aF hc
 have h2:=c_ h2
 have h3:=of_decide_eq_true h3
 clear h hc gn
 cases g
 cases e;cases h2;cases h3
 exact⟨px,rfl⟩
theorem Hs{elt:aw}{gs:List Comprehension}{sc:Scope}{pos:Pos}{q:Comp}(h:xK elt gs sc pos=ag q):∃px,Expr.ListComp elt gs sc pos=.ListComp q.elt [⟨.Name q.id px,q.iter,[],0⟩] q.sc q.pos:=aD h λg hg h=>aD h λp hp h=>by
 obtain⟨px,e⟩:=UX hp
 cases so h
 rw[dN hg,e]
 exact⟨px,rfl⟩
theorem BI{id:Str}(h:(!(seq id oN))=ae):(id==("__debug__":Str))=af:=by
 cases q:id==("__debug__":Str)with
 |false=>rfl
 |true=>rw[eq_of_beq q]at h;exact nt h
theorem acU(bQ:eG W X G n){elt:aw}{gs:List Comprehension}{sc:Scope}{pos:Pos}(h:Gv (Ob (xK elt gs sc pos) λq=>Tt (qt q.sc q.id&&(ng q.iter&&(G.quiet&& !(seq q.id oN)))) (bc G n q.iter st (λv st=>Ob (lQ q.elt q.id v) λys=>k (.lst ys) st) x)) rr):RE W X G J x rr st (.ListComp elt gs sc pos) k:=by
 refine a_ h λq hq h=>bF h λhc h=>?_
 obtain⟨c1,hc⟩:=aF hc
 obtain⟨c2,hc⟩:=aF hc
 obtain⟨c3,c4⟩:=aF hc
 obtain⟨px,e⟩:=Hs hq
 have o:=BC c1
 rw[e]
 exact Rz.as (λκ i Q E s=>Q_ o c2) (Rz.bind (F:=λκ i va Q E s=>aeO κ q.sc q.id q.elt va (I1 Q) E s) (bQ h) λv bj h=>a_ h λys qV h=>aD qV λl hl qV=>bK qV λhs hm=>Rz.leaf _ bj h λκ a i Q E hi R K=>BD o (BI c4) (κ.quiet c3) (aF hs).1 (aF hs).2 hm R (λD C h' tk m' us cc i4 hD hC hn hp hv keep=>⟨hn,λo9 hs=>Yp i4 hD hC hp hv keep hs R (kv K)⟩) (jS hl hi.2))
end
section
variable{W:Wd}{X:bU}{G:aX}{κ:aW W G}{a:Cf}{st st' :aq}{Q:ao→ay→Prop}{E:ao→ay→Prop}{n:Nat}{J:cD W G}{k:V→aq→au}{x:V→aq→au}{rr:R}
theorem adu{e:aw}(h:zZ e=ae)(env:Env)(whole:Sem ao):isTrue e env whole=(do let v ←whole;standAt e.pos;holding [v] (truthy v)):=by cases e<;>first|rfl|exact nt h
theorem Nz{e:aw}{Q:Bool→ay→Prop}{s:ay}(hp:zZ e=ae)(h:aA W.M κ.A (eval e κ.env) (λv cu=>aA W.M κ.A (truthy v) Q E cu) E s):aA W.M κ.A (isTrue e κ.env (eval e κ.env)) Q E s:=by
 rw[adu hp]
 exact bq (iK h (λv cu h=>bq (wpAny_standAt (wpAny_holding h))) λ_ _ e=>e)
theorem adH{p:Pl}{l:List V}{Q:Bool→ay→Prop}(hl:p.get st=ag l)(h:short l=ae)(R:Rl W κ st a)(K:∀t,Q (cY l) {a.s with toks:=t}):aA W.M κ.A (truthy (.ref (p.addr a.π))) Q E a.s:=by
 obtain⟨vs,n,g,hv,_⟩:=R.place hl
 exact NI g hv.size h K
theorem ac1(hG:cb W X G)(bQ:eG W X G n){e:aw}{k:Bool→aq→au}(h:Gv (Tt (zZ e) (Oe (placeOf G e st) (λp=>Ob (p.get st) λl=>Tt (short l) (k (cY l) st)) (bc G n e st (λv st=>Ob (truth v) λb=>k b st) x))) rr):RT W X G J x rr st e k:=
 bF h λhp h=>eC h (λp qP h=>a_ h λl hl h=>bF h λhs h=>Rz.leaf _ st h λκ a i Q E hi R K=>Nz hp (EZ hG qP R λt=>adH (a:=a.to {a.s with toks:=t}) hl hs (R.tok t) λt' =>lh (a:=a) R K t'))
  λ_ h=>Rz.as (λκ i Q E s=>Nz hp) (Rz.bind (bQ h) λv bj h=>a_ h λb hb h=>Rz.leaf b bj h λκ a i Q E hi R K=>tZ (R.fh κ.hA) hb hi.2 (lh R K))
theorem acN(hG:cb W X G)(bQ:eG W X G n)(ke:oE W X G n)(yC:xl W X G n):oE W X G (n+1):=by
 intro e st k x r h J
 cases e with
 |UnaryOp op e pos=>
  cases op with
  |Not=>exact Rz.as (λκ i Q E s=>wpAny_isTrue_Not) (Rz.bind (ke (h:Gv (iV G n e st (λb st=>k (!b) st) x) r)) λb bj h=>Rz.leaf (!b) bj h λκ a i Q E hi R K=>by rw[show i.2=b from hi.2];exact lh R K a.s.toks)
  |_=>exact No h
 |BoolOp op es pos=>exact Rz.as (λκ i Q E s=>wpAny_isTrue_BoolOp) (yC (h:Gv (qy G n op es st k x) r))
 |Compare l ops rs pos=>exact eC h (λq hq h=>ac3 hG bQ hq h) λ_ h=>a_ h λq hq h=>ac4 bQ hq h
 |_=>exact ac1 hG bQ h
theorem acG(hG:cb W X G)(bQ:eG W X G n)(sZ:uy W X G n)(s_:uz W X G n)(yD:xm W X G n)(dX:je W X G n)(hZ:lN W X G n)(ke:oE W X G n):eG W X G (n+1):=by
 intro e st k x r h J
 cases e with
 |Constant c u pos=>exact acV h
 |Name id pos=>exact acY hG h
 |Attribute o a pos=>exact acO hG bQ h
 |BinOp l op r pos=>exact acP bQ h
 |Compare l ops rs pos=>exact eC h (λq hq h=>acS hG bQ hq h) λ_ h=>a_ h λq hq h=>acT bQ hq h
 |BoolOp op es pos=>exact yD h pos
 |UnaryOp op e pos=>
  cases op with
  |Not=>exact ac0 bQ h
  |USub=>exact acZ bQ h
  |_=>exact No h
 |IfExp t b o pos=>exact step_if bQ ke h
 |Subscript o i pos=>exact ac2 hG bQ s_ h
 |Call f args aE pos=>
  refine bF h λha h=>eC h (λa hf h=>?_) λ_ h=>a_ h λa hf h=>?_
  ·rw[xw hf];exact acQ hG bQ dX hZ ha h
  ·rw[rl hf];exact acR hG bQ dX hZ ha h
 |Tuple es cx pos=>exact ac5 dX h
 |List es pos=>exact acX sZ h
 |ListComp elt gs sc pos=>exact acU bQ h
 |_=>exact No h
structure gJ(W:Wd)(X:bU)(G:aX)(n:Nat):Prop where
 E:eG W X G n
 F:uy W X G n
 P:uz W X G n
 O:xm W X G n
 A:je W X G n
 K:lN W X G n
 T:oE W X G n
 B:xl W X G n
theorem rO(hG:cb W X G)(n:Nat):gJ W X G n:=by
 induction n with
 |zero=>exact⟨λh=>No h,λh=>No h,λh=>No h,λh=>No h,λ_ h=>No h,λh=>No h,λh=>No h,λh=>No h⟩
 |succ n ih=>
  obtain⟨h1,h2,h3,h4,h5,h6,h7,h8⟩:=ih
  exact⟨acG hG h1 h2 h3 h4 h5 h6 h7,acH h1 h2 h5 h7,acK h1,acJ h1 h4,acE h1 h5,acI h1 h6,acN hG h1 h7 h8,acF h7 h8⟩
end
section
variable{W:Wd}{X:bU}{G:aX}{κ:aW W G}{a:Cf}{st st' :aq}{E:ao→ay→Prop}{n:Nat}{x:aQ}{c:Act}{s:ay}{A:eK}
theorem rR{id:Str}{y:V}{v:ao}{Q:Unit→ay→Prop}(hk:isLocal (G.kind id)=ae)(hv:VR W a.fz κ.x y v)(R:Rl W κ st a)(K:∀d,Le ae a d→Rl W κ (d7 id y st) d→Q () d.s):aA W.M κ.A (storeName κ.env id v) Q E a.s:=by
 obtain⟨m,c1,f,e,⟨c2,F,H,S⟩,L⟩:=R
 exact storeX_L F H.N (λh' F' N' =>K (a.to {a.s with heap:=h',toks:=a.s.toks+1}) (Le.to (.mk _ _)) ⟨_,c1,f,e,⟨c2,F',⟨N',H.D⟩,S⟩,L.put hv (if_pos rfl) λb hb=>if_neg hb⟩) κ.hA.kind (ju κ hk)
theorem apart{c1 c2 r z cs:Cells}{p:aQ×km}{h:cG}(H:Hp c h (c2++((c1++p::r)++z))):(∀q∈c1,q.1≠p.1)∧∀q∈c2,q.1≠p.1:=by
 have:=(List.nodup_cons.mp (H.perm jA).D).1
 exact⟨λq hq e=>this (List.mem_map.mpr ⟨q,bM _ (ib _ (ib _ hq)),e⟩),λq hq e=>this (List.mem_map.mpr ⟨q,ib _ hq,e⟩)⟩
theorem ac8{id:Str}{l:List V}{p:aQ}{vs:Array ao}{n:Nat}{Q:Unit→ay→Prop}(hk:isLocal (G.kind id)=ae)(hv:aS W a.fz κ.x l vs.toList)(R:Rl W κ st (a.own (p,cM vs n) a.s))(K:∀d,Le af a d→Rl W κ (wz id l st) d→Q () d.s):aA W.M κ.A (storeName κ.env id (.ref p)) Q E a.s:=by
 obtain⟨m,c1,f,e,⟨c2,F,H,S⟩,L⟩:=R
 refine storeX_L F H.N (λh' F' N' =>K ⟨⟨a.π.f,λz=>if z=id then p else a.π.l z⟩,a.rest,a.fz,{a.s with heap:=h',toks:=a.s.toks+1}⟩ ⟨λh=>nt h,rfl,rfl,Sub.refl _,.mk _ _⟩ ⟨_,(p,cM vs n)::c1,f,e,⟨c2,F',Hp.perm (jA.trans List.perm_middle.symm) ⟨N',H.D⟩,S⟩,L.E9 (apart (cs:=[]) H).1 ?_ (if_pos rfl) (λb hb=>if_neg hb) λb hb=>if_neg hb⟩) κ.hA.kind (ju κ hk)
 show jV p=.ref (if id=id then p else a.π.l id)∧kH _ _ _ _ _ (if id=id then p else a.π.l id)
 rw[if_pos rfl]
 exact⟨rfl,.mk vs n (.head _) hv⟩
theorem abW{ox:km}{C:aQ}{nm:Str}{es:List DictEntry}{n:Nat}{v:ao}{x dx:aQ}{m:Str→Option ao}{r:Cells}{Q:Unit→ay→Prop}(hK:W.K.In c.h₀)(F:Fr c.h₀ c.L s.heap m)(H:Hp c s.heap ((x,ox)::(dx,dictOf es n)::r))(hc:ox.cls=.ref C)(hd:ox.dict=ag dx)(hn:notCls ox=ae)(ha:kP W.K C nm=ae)(hl:(getL nm es).isSome=ae)(hz:es.length≤999)
 (K:∀h' t t' n',Fr c.h₀ c.L h' m→Hp c h' ((x,ox)::(dx,dictOf (putL nm (ml W.w.params nm) (.str nm t') v es) n')::r)→Q () {s with heap:=h',toks:=t}):aA W.M A (setAttr (.ref x) nm v) Q E s:=by
 have I:InstAt s.heap x ox C (ag (dictOf es n)):=⟨H.N.get (.head _),hc,hn,by rw[hd];exact H.N.get (.tail _ (.head _))⟩
 have H' :=H.perm (EK ..)
 have fS:∀p∈(x,ox)::r,p.1≠dx:=λp hp e=>(List.nodup_cons.mp H'.D).1 (List.mem_map.mpr ⟨p,hp,e⟩)
 have back:∀{h' o'},News c.h₀ c.L h' ((dx,o')::(x,ox)::r)→Hp c h' ((x,ox)::(dx,o')::r):=λN=>Hp.perm (EK ..) ⟨N,H'.D⟩
 rcases Bool.or_eq_true_iff.mp ha with e|e
 ·obtain⟨a1,a2,⟨at_,a3,a4⟩,a5,a6,a7⟩:=GV e
  exact set_dict F hK H'.N I hd a5 a6 a7 a2 hl rfl (.head fS) (aL (Mg es).1 (jy hz)) λh' F' N' =>K h' _ _ _ F' (back N')
 ·exact SN (pre:=[]) F hK H'.N (λp hp=>by cases hp) fS I hd (aF e).2 hl hz λh' t t' F' N' =>K h' t t' _ F' (back N')
theorem Only.set{fs:FS}{es:List DictEntry}{nm:Str}{y:FV}{z:Int}{t:Tok}{v:ao}(h:Only fs es):Only (di nm y fs) (putL nm z (.str nm t) v es):=⟨abj es h.1,λb hb=>by
 by_cases e:b=nm
 ·rw[e,look_same]at hb;cases hb
 ·rw[DX e]at hb;rw[vg,if_neg e];exact h.2 b hb⟩
theorem aa4{fs:FS}{es:List DictEntry}{nm:Str}{y:FV}{z:Int}{k v:ao}(le:es.length≤fs.length)(h:∀u,aV nm fs=ag u→(gl es nm).isSome=ae):(putL nm z k v es).length≤(di nm y fs).length:=by
 obtain⟨h1,h2⟩:=Mg (a:=nm) (z:=z) (k:=k) (v:=v) es
 cases q:aV nm fs with
 |none=>rw[(z6 fs).2 q];exact aL h1 (jy le)
 |some u=>rw[h2 (h u q)];exact aL le (z6 fs).1
theorem Mb{nc c1 c3 r z:Cells}:(c3++((c1++(nc++r))++z)).Perm ((nc++c3)++((c1++r)++z)):=by
 rw[aR,aR,aR,aR]
 exact((Lw nc c3 _).trans ((Lw nc c1 _).append_left c3)).symm
theorem FC{C:aQ}{fs:FS}{nm:Str}{y:FV}{v:ao}{nc:Cells}{Q:Unit→ay→Prop}(hs:st.self=ag (C,fs))(ha:kP W.K C nm=ae)(hl:aJ fs.length 100=ae)
 (hf:∀(f:iP) c3 g g',(st.free=ae∨f=a.π.f)→(∀q∈c3,∀p∈nc,q.1≠p.1)→g' nm=ag v→(∀b,b≠nm→g' b=g b)→AR W a.fz κ.x c3 f.f g fs→∃p',(st.free=ae∨p' =f.f)∧AR W a.fz κ.x (nc++c3) p' g' (di nm y fs))
 (R:Rl W κ st ⟨a.π,nc++a.rest,a.fz,a.s⟩) (K:∀d,Le ae a d→Rl W κ (rI C nm y fs st) d→Q () d.s):aA W.M κ.A (setAttr (.ref κ.x) nm v) Q E a.s:=by
 obtain⟨m,c1,f,e,⟨c2,F,H,S⟩,L⟩:=R
 rw[hs]at S
 obtain⟨d,es,n,c3,oc,od,on,le,z,R'⟩:=(S:kJ _ _ _ _ _ _ _)
 have hg:(getL nm es).isSome=ae:=by
  cases q:gl es nm with
  |none=>rw[gl_none q z.1];rfl
  |some v=>rw[Cs q];rfl
 have D:=(List.nodup_cons.mp (List.nodup_cons.mp (H.perm ((Mb.cons _).cons _)).D).2).2
 rw[ko,ko]at D
 refine abW κ.hA.bX F H oc od on ha hg (aL le (aL (bw hl) (by decide))) λh' t t' n' F' H' =>?_
 obtain⟨p',e1,R2⟩:=hf f c3 (gl es) (gl (putL nm (ml W.w.params nm) (.str nm t') v es)) e (λq hq p hp e=>(List.nodup_append.mp (List.nodup_append.mp D).1).2.2 _ (zO hp) _ (zO hq) e.symm) (by rw[vg,if_pos rfl]) (λb hb=>by rw[vg,if_neg hb]) R'
 exact K (a.to {a.s with heap:=h',toks:=t}) (Le.to (.mk _ _)) ⟨m,c1,⟨p',f.o⟩,e1.elim .inl λh=>e.imp id λe=>by rw[h];exact e,⟨_,F',H'.perm ((Mb.cons _).cons _),.mk d _ n' _ oc od on (aa4 le λu hu=>by obtain⟨v,e,_⟩:=R'.at_ hu;rw[e];rfl) z.set R2⟩,L⟩
theorem Nj{C:aQ}{fs:FS}{nm:Str}{y:V}{v:ao}{Q:Unit→ay→Prop}(hs:st.self=ag (C,fs))(ha:kP W.K C nm=ae)(hl:aJ fs.length 100=ae)(hv:VR W a.fz κ.x y v)(R:Rl W κ st a)(K:∀d,Le ae a d→Rl W κ (rI C nm (.v y) fs st) d→Q () d.s):aA W.M κ.A (setAttr (.ref κ.x) nm v) Q E a.s:=
 FC (nc:=[]) hs ha hl (λf c3 g g' _ _ e o R=>⟨f.f,.inr rfl,R.put hv e o⟩) R K
theorem ac6{C:aQ}{fs:FS}{nm:Str}{l:List V}{p:aQ}{vs:Array ao}{n:Nat}{Q:Unit→ay→Prop}(hs:st.self=ag (C,fs))(ha:kP W.K C nm=ae)(hl:aJ fs.length 100=ae)(iD:st.free=ae)(hv:aS W a.fz κ.x l vs.toList)(R:Rl W κ st (a.own (p,cM vs n) a.s))(K:∀d,Le ae a d→Rl W κ (rI C nm (.own l) fs st) d→Q () d.s):aA W.M κ.A (setAttr (.ref κ.x) nm (.ref p)) Q E a.s:=
 FC (nc:=[(p,cM vs n)]) hs ha hl (λf c3 g g' _ hd e o R=>⟨λz=>if z=nm then p else f.f z,.inl iD,R.E9 (λq hq=>hd q hq _ (.head _)) (by
  show jV p=.ref (if nm=nm then p else f.f nm)∧kH _ _ _ _ _ (if nm=nm then p else f.f nm)
  rw[if_pos rfl]
  exact⟨rfl,.mk vs n (.head _) hv⟩) e o λb hb=>if_neg hb⟩) R K
theorem ac7{C:aQ}{fs:FS}{nm:Str}{l:List (Int×V)}{kv:List (Int×ao)}{p:aQ}{o:km}{Q:Unit→ay→Prop}(hs:st.self=ag (C,fs))(ha:kP W.K C nm=ae)(hl:aJ fs.length 100=ae)(hd:o.IsDictOf (intKind W.prog W.w) kv)(hz:(p==sysModules)=af)(hv:eO W a.fz κ.x l kv)(R:Rl W κ st (a.own (p,o) a.s))(K:∀d,Le ae a d→Rl W κ (rI C nm (.keys l) fs st) d→Q () d.s):aA W.M κ.A (setAttr (.ref κ.x) nm (.ref p)) Q E a.s:=
 FC (nc:=[(p,o)]) hs ha hl (λf c3 g g' _ qK e ot R=>⟨f.f,.inr rfl,R.E9 (y:=.keys l) (λq hq=>qK q hq _ (.head _)) (ow.mk p o kv (.head _) hd hv hz) e ot λb _=>rfl⟩) R K
theorem Af{nm:Str}{y:FV}{k:aq→au}{r:R}(h:Gv (jC G nm y st k) r){P:Prop}(K:∀C fs,st.self=ag (C,fs)→mZ C nm G.attrs=ae→aJ fs.length 100=ae→Gv (k (rI C nm y fs st)) r→P):P:=
 a_ h λc hc h=>bF h λhh h=>eC h (λu _ h=>eC h (λ_ _ h=>No h) λ_ h=>eC h (λ_ _ h=>No h) λ_ h=>K c.1 c.2 hc (aF hh).1 (aF hh).2 h) λ_ h=>K c.1 c.2 hc (aF hh).1 (aF hh).2 h
end
inductive uv(p:ao→Prop):Flow→Prop
 |mk (v:ao) (h:p v):uv p (.ret v)
def AH(W:Wd)(fz:Cells)(x:aQ)(o:Out)(f:Flow):Prop:=Out.casesOn o (f=.next) (f=.brk) (f=.cont) (λy=>uv (VR W fz x y) f) (λ_=>False)
def g8(W:Wd)(G:aX):Po W G Out Flow:=λκ o st' d f=>AH W d.fz κ.x o f∧Rl W κ st' d
section
variable(W:Wd)(X:bU)(G:aX)(st:aq)(k:Out→aq→au)(r:R)
def RS(s:aG):Prop:=Rz X cD.nil af (λκ _=>aA W.M κ.A (exec s κ.env)) st (g8 W G) k (exc k) r
def mG(s:List aG):Prop:=Rz X cD.nil af (λκ _=>aA W.M κ.A (execs s κ.env)) st (g8 W G) k (exc k) r
end
section
variable{W:Wd}{X:bU}{G:aX}{κ:aW W G}{a:Cf}{st st' :aq}{E:ao→ay→Prop}{n:Nat}{k:Out→aq→au}{rr:R}{s:ay}{A:eK}
theorem lB{e:aw}{t:Option aw}{l:Nat}{env:Env}(h:fV e=ae):swapsWith e t l env=pure af:=by cases e<;>first|rfl|exact nt h
theorem YO{Q:Flow→ay→Prop}{b:Cf}(K:∀d f,Le af a d→g8 W G κ .next st d f→Q f d.s)(l:Le af a b):∀d,Le af b d→Rl W κ st d→Q .next d.s:=λd l' R=>K d .next (l.trans l') ⟨rfl,R⟩
theorem s_fresh(H:gJ W X G n){id:Str}{p pos:Pos}{e:aw}(hk:isLocal (G.kind id)=ae)(hn:fV e=ae)(h:Gv (kU G n e st (λl st=>k .next (wz id l st)) (exc k)) rr):RS W X G st k rr (.Assign [.Name id p] e pos):=by
 have h:RF W X G .nil (exc k) rr st e λl st=>k .next (wz id l st):=H.F h
 rcases h with⟨l,st',H,h⟩|⟨y,st',H,h⟩
 ·refine .ok .next _ (λκ a i hi c Q E lc R K=>wpAny_Assign_Name (H κ a i hi c _ E lc R λd v ld hv=>?_) (lB hn)) h
  obtain⟨p,vs,n,hv,R'⟩:=hv
  exact ac8 hk hv R' (YO K ld.weak)
 ·exact .ex y st' (λκ a i hi c Q E lc R K=>wpAny_Assign_Name (H κ a i hi c _ E lc R K) (lB hn)) h
theorem abF(H:gJ W X G n){id:Str}{p pos:Pos}{e:aw}(hk:isLocal (G.kind id)=ae)(hn:fV e=ae)(h:Gv (bc G n e st (λv st=>k .next (d7 id v st)) (exc k)) rr):RS W X G st k rr (.Assign [.Name id p] e pos):=
 Rz.as (λκ i Q E s h=>wpAny_Assign_Name h (lB hn)) (Rz.bind (F:=λκ i v(Q:Flow→ay→Prop) E s=>aA W.M κ.A (storeName κ.env id v) (λ_=>Q .next) E s) (H.E h) λy bj h=>Rz.leaf .next _ h λκ a i Q E hi R K=>rR hk hi.2 R λd l R' =>K d .next l.weak ⟨rfl,R'⟩)
theorem adL{ts:List aw}{vs:List V}{k:Out→aq→au}{r:R}{P:Prop}(h:Gv (tupK G ts vs st k) r)(K:∀st',rJ G ts vs st=ag st' →Gv (k .next st') r→P):P:=bF h λhb h=>K _ (ez hb rfl) h
theorem MS{t:aw}{ts:List aw}{vs:List V}{st' :aq}{P:Prop}(h:rJ G (t::ts) vs st=ag st')(K:∀v fu id,vs=v::fu→nameOf t=ag id→isLocal (G.kind id)=ae→rJ G ts fu (d7 id v st)=ag st' →P):P:=bK h λhb h=>by
 obtain⟨h1,h2⟩:=aF hb
 obtain⟨g2,h3⟩:=aF h2
 cases vs with
 |nil=>exact nt h1
 |cons v vs=>cases e:nameOf t with
  |none=>rw[e]at g2;exact nt g2
  |some id=>
   rw[e]at g2
   refine K v vs id rfl e g2 (ez h3 ?_)
   rw[←h]
   show ag (wC ts vs (d7 id v st))=ag (wC ts vs (oe (nameOf t) (λid=>d7 id v st) st))
   rw[e];rfl
theorem abT{ts:List aw}{env:Env}:∀{vs:List V}{st st' :aq},rJ G ts vs st=ag st' →ts.length=vs.length∧(assignEach ts env).length=ts.length∧(assignEach ts env).findIdx? (·.1)=bg:=by
 induction ts with
 |nil=>intro vs st st' h;exact bK h λh _=>⟨by rw[c_ h];rfl,rfl,rfl⟩
 |cons t ts ih=>
  intro vs st st' h
  exact MS h λv vs id ev gn hk h=>by
   obtain⟨a,b,d⟩:=ih h
   obtain⟨p,e⟩:=ly gn
   rw[e,ev]
   refine⟨congrArg Z5 a,congrArg Z5 b,?_⟩
   show List.findIdx? (·.1) ((af,_)::assignEach ts env)=bg
   rw[List.findIdx?_cons,if_neg jW,d];rfl
theorem abU{ts:List aw}:∀{vs:List V}{st st' :aq}{a:Cf}{us:List ao}{Q:Unit→ay→Prop},rJ G ts vs st=ag st' →Rl W κ st a→aS W a.fz κ.x vs us→(∀d,Le ae a d→Rl W κ st' d→Q () d.s)→aA W.M κ.A (assignInOrder ((assignEach ts κ.env).map (·.2)) us) Q E a.s:=by
 induction ts with
 |nil=>
  intro vs st st' a us Q h R hv K
  refine bK h λhn h=>?_
  rw[c_ hn]at hv
  rw[(hv:us=[])]
  exact dv (K a (Le.refl a) (so h▸R))
 |cons t ts ih=>
  intro vs st st' a us Q h R hv K
  exact MS h λv vs id ev gn hk h=>by
   rw[ev]at hv
   obtain⟨u,us,hu,V_⟩:=(hv:dH _ _ _)
   obtain⟨p,e⟩:=ly gn
   rw[e]
   show aA W.M κ.A (do holding us (assign (.Name id p) κ.env u);assignInOrder ((assignEach ts κ.env).map (·.2)) us) Q E a.s
   exact bq (wpAny_holding (wpAny_assign_Name (rR hk hu R λd l R' =>ih h R' (V_.up l.fz) λd' l' AP=>K d' (l.trans l') AP)))
theorem unpack{ts:List aw}{kd:Nat}{tp:Pos}{vs:List V}{Q:Unit→ay→Prop}(hq:κ.A.handled=bg)(hs:rJ G ts vs st=ag st')(R:Rl W κ st a)(K:∀d,Le ae a d→Rl W κ st' d→Q () d.s):∀{v:ao},cf W a.fz fJ (aS W a.fz κ.x vs) v→aA W.M κ.A (assign (.Tuple ts kd tp) κ.env v) Q E a.s
 |_,.mk t items m h hv=>by
  obtain⟨l1,l2,l3⟩:=abT (env:=κ.env) hs
  refine wpAny_assign_Tuple hq ⟨_,R.fh κ.hA _ _ h,rfl,_,rfl⟩ (by rw[l2,l1,hv.size]) l3 λhW he=>?_
  exact abU (a:=a.to {a.s with heap:=hW}) hs (R.keeps λb o e=>he b o (nK (ru e)) e) hv λd l R' =>K d ((Le.to (.mk _ _)).trans l) R'
theorem Y7{ts:List aw}{kd:Nat}{tp:Pos}{e:aw}{env:Env}(h:zo e=ae):swappedStores [.Tuple ts kd tp] e env=pure bg:=by cases e<;>first|rfl|exact nt h
theorem abK(H:gJ W X G n){ts:List aw}{kd:Nat}{tp pos:Pos}{e:aw}(h:Gv (Tt (G.quiet&&(zo e&&fV e)) (bc G n e st (λv st=>Ob v.t? λvs=>tupK G ts vs st k) (exc k))) rr):RS W X G st k rr (.Assign [.Tuple ts kd tp] e pos):=
 bF h λhc h=>Rz.as (λκ i Q E s h=>Assign_Tuple h (lB (aF (aF hc).2).2:swapsWith e (ag (.Tuple ts kd tp)) pos.line κ.env=pure af) (Y7 (aF (aF hc).2).1)) (Rz.bind (F:=λκ i v(Q:Flow→ay→Prop) E s=>aA W.M κ.A (assign (.Tuple ts kd tp) κ.env v) (λ_=>Q .next) E s) (H.E h) λy bj h=>a_ h λvs m8 h=>adL h λdc hs h=>
  Rz.leaf .next dc h λκ a i Q E hi R K=>unpack (κ.quiet (aF hc).1) hs R (λd l R' =>K d .next l.weak ⟨rfl,R'⟩) (rU m8 hi.2))
end
section
variable{W:Wd}{X:bU}{G:aX}{κ:aW W G}{a:Cf}{st st' :aq}{E:ao→ay→Prop}{n:Nat}{k:Out→aq→au}{rr:R}{s:ay}{A:eK}{fz:Cells}{x:aQ}{Q:ao→ay→Prop}
theorem PV{op:mj}(h:uH op=ae):op=.Add∨op=.Sub:=(Bool.or_eq_true_iff.mp h).imp Dw W0
theorem Wm{i j:Int}(K:KV W fz x s (.int (i+j)) Q):∀{va vb:ao},bL i va→bL j vb→aA W.M A (inplaceOp .Add va vb) Q E s
 |_,_,.mk _,.mk _=>PyProof.Rows.iadd_int (K _ _ (bL.mk _))
theorem W5{i j:Int}(K:KV W fz x s (.int (i -j)) Q):∀{va vb:ao},bL i va→bL j vb→aA W.M A (inplaceOp .Sub va vb) Q E s
 |_,_,.mk _,.mk _=>PyProof.Rows.isub_int (K _ _ (bL.mk _))
theorem Wn{i j:List Nat}(h:i.length+j.length≤16777216)(K:KV W fz x s (.str (i++j)) Q):∀{va vb:ao},cj i va→cj j vb→aA W.M A (inplaceOp .Add va vb) Q E s
 |_,_,.mk _ _,.mk _ _=>SBL.iadd (λt' k _=>by rw[Ap];exact K _ _ (cj.mk (by rw[bE];exact h) t')) (by rw[nY,kC,kC];exact h)
theorem JA{op:mj}{b c y:V}{va vb:ao}(e:kQ op b c=ag y)(pd:uH op=ae)(ha:VR W fz x b va)(hb:VR W fz x c vb)(K:KV W fz x s y Q):aA W.M A (inplaceOp op va vb) Q E s:=by
 rcases PV pd with rfl|rfl
 ·exact dn (e:A0 b c=ag y) (λi hi e=>aD e λj hj e=>Wm (so e▸K) (dF hi ha) (dF hj hb)) λ_ e=>aD e λi hi e=>aD e λj hj e=>bK e λh e=>Wn (bw h) (so e▸K) (dQ hi ha) (dQ hj hb)
 ·exact aD (e:p7 b c _=ag y) λi hi e=>aD e λj hj e=>W5 (so e▸K) (dF hi ha) (dF hj hb)
abbrev aT{W:Wd}{G:aX}(o nm:Str)(np:Pos)(κ:aW W G)(v:ao):Tr Flow:=λQ E s=>aA W.M κ.A (eval (.Name o np) κ.env) (λov bV=>aA W.M κ.A (setAttr ov nm v) (λ_=>Q .next) E bV) E s
theorem abw(hG:cb W X G)(H:gJ W X G n){o:Str}{nm:Str}{np p pos:Pos}{e:aw}(hn:fV e=ae)(h:Gv (bc G n e st (λv st=>Tt (gp G o st) (jC G nm (.v v) st λst=>k .next st)) (exc k)) rr):RS W X G st k rr (.Assign [.Attribute (.Name o np) nm p] e pos):=
 Rz.as (λκ i Q E s h=>plainObj_wpAny_Assign_Attribute h (lB hn)) (Rz.bind (F:=λκ i v=>aT o nm np κ v) (H.E h) λy bj h=>bF h λhs h=>Af h λC fs hc h2 hl h=>Rz.leaf .next _ h λκ a i Q E hi R K=>
  wH hs R (Nj hc (hG.attrs _ (o_ h2)) hl hi.2 R λd l R' =>K d .next l.weak ⟨rfl,R'⟩))
theorem aby(hG:cb W X G)(H:gJ W X G n){o:Str}{nm:Str}{np p pos:Pos}{e:aw}(hn:fV e=ae)(h:Gv (kU G n e st (λl st=>Tt (gp G o st&&st.free) (jC G nm (.own l) st λst=>k .next st)) (exc k)) rr):RS W X G st k rr (.Assign [.Attribute (.Name o np) nm p] e pos):=by
 have h:RF W X G .nil (exc k) rr st e λl st=>Tt (gp G o st&&st.free) (jC G nm (.own l) st λst=>k .next st):=H.F h
 rcases h with⟨l,st',H,h⟩|⟨y,st',H,h⟩
 ·refine bF h λhs h=>Af h λC fs hc h2 hl h=> .ok .next _ (λκ a i hi c Q E lc R K=>plainObj_wpAny_Assign_Attribute (H κ a i hi c _ E lc R λd v ld hv=>?_) (lB hn)) h
  obtain⟨p,vs,n,hv,R'⟩:=hv
  exact wH (a:=d.own (p,cM vs n) d.s) (aF hs).1 R' (ac6 (a:=d) hc (hG.attrs _ (o_ h2)) hl (aF hs).2 hv R' λd l R' =>K d .next (ld.weak.trans l.weak) ⟨rfl,R'⟩)
 ·exact .ex y st' (λκ a i hi c Q E lc R K=>plainObj_wpAny_Assign_Attribute (H κ a i hi c _ E lc R K) (lB hn)) h
theorem Y1{e:aw}(h:noDict e=ae):∃p,e=.Dict [] [] p:=by
 cases e with
 |Dict ks vs p=>rw[c_ (aF h).1,c_ (aF h).2];exact⟨p,rfl⟩
 |_=>exact nt h
theorem abx(hG:cb W X G){o:Str}{nm:Str}{np p pos:Pos}{e:aw}(hd:noDict e=ae)(h:Gv (Tt (gp G o st) (jC G nm (.keys []) st λst=>k .next st)) rr):RS W X G st k rr (.Assign [.Attribute (.Name o np) nm p] e pos):=by
 obtain⟨dp,e⟩:=Y1 hd
 rw[e]
 refine bF h λhs h=>Af h λC fs hc h2 hl h=>Rz.leaf .next _ h λκ a i Q E hi R K=>plainObj_wpAny_Assign_Attribute (wpAny_Dict_empty ?_) rfl
 have R' :=R.tO (o:={cls:=.type "dict",data:=.dict #[]}) rfl
 have lo:(a.s.heap.objs.size==sysModules)=af:=by
  obtain⟨m,c1,f,e,⟨c2,F,H,S⟩,L⟩:=R
  exact F.notModules (modules_low κ.hA.top.nolimit)
 obtain⟨o',ho,hd⟩:=Heap.dictOf_iff.mp (Heap.DictOf.new (knd:=intKind W.prog W.w) a.s.heap)
 rw[kr _ rfl]at ho
 exact wH hs R' (ac7 (l:=[]) (kv:=[]) (a:=a.to (pushS a.s {cls:=.type "dict",data:=.dict #[]})) hc (hG.attrs _ (o_ h2)) hl ((fX ho)▸hd) lo rfl R' λd l R' =>K d .next ((Le.to (.mk _ _)).trans l.weak) ⟨rfl,R'⟩)
theorem HE{o:km}{kv:List (Int×ao)}(h:o.IsDictOf (intKind W.prog W.w) kv):(kv.map (·.1)).Nodup:=let⟨_,_,_,_,_,_,hn⟩:=h;hn
theorem Xr{nm:Str}{kvs:List (Int×V)}{d:aQ}{j:Int}{y:V}{v:ao}{t:Nat}{Q:Unit→ay→Prop}(hl:aJ kvs.length 1000=ae)(hv:VR W a.fz κ.x y v)(r:ou W κ.x κ.c st a nm kvs d)(K:∀d,Le ae a d→Rl W κ (ni nm (pR j y kvs) st) d→Q () d.s):∀{vi:ao},bL j vi→aA W.M κ.A (setItem (.ref d) vi v) Q E {a.s with toks:=t}
 |_,.mk tk=>by
  obtain⟨o,kv,g,D,hk,z,L,up⟩:=r
  refine wpAny_setItem_pairs (s:={a.s with toks:=t}) (intKind_is _ _ j tk) (Heap.dictOf_iff.mpr ⟨o,g,D⟩) (λh' Vk vG=>?_) (by rw[hk.length];exact wN hl)
  obtain⟨o',i8,qK⟩:=Heap.dictOf_iff.mp Vk
  exact K (a.to {a.s with heap:=h',toks:=_}) (Le.to (.mk _ _)) (up _ o' _ _ vG i8 qK (hk.put hv (HE D)))
abbrev kT{W:Wd}{G:aX}(o i:aw)(κ:aW W G)(v:ao):Tr Flow:=λQ E s=>aA W.M κ.A (eval o κ.env) (λov bV=>aA W.M κ.A (eval i κ.env) (λiv iM=>aA W.M κ.A (setItem ov iv v) (λ_=>Q .next) E iM) E bV) E s
theorem abH(hG:cb W X G)(H:gJ W X G n){o i e:aw}{p pos:Pos}(h:Gv (Tt (fV e) (bc G n e st (λv st=>Ob (keysAt G o st) λq=>Ob (ob (qE G 20 i st) V.i?) λj=>Tt (aJ q.2.length 1000) (k .next (ni q.1 (pR j v q.2) st))) (exc k))) rr):RS W X G st k rr (.Assign [.Subscript o i p] e pos):=
 bF h λhn h=>Rz.as (λκ i Q E s h=>wpAny_Assign_Subscript h (lB hn)) (Rz.bind (F:=λκ _ v=>kT o i κ v) (H.E h) λy bj h=>a_ h λq hq h=>a_ h λj hj h=>aD hj λu hu hj=>bF h λhl h=>Rz.leaf .next _ h λκ a i Q E hi R K=>
  qY hG hq R λd t r=>rD hG _ hu κ (R.tok t) λvi t' qR=>Xr hl hi.2 r (λd l R' =>K d .next l.weak ⟨rfl,R'⟩) (dF hj qR))
theorem Xq{nm:Str}{kvs:List (Int×V)}{d:aQ}{j:Int}{y:V}{t:Nat}{Q:Unit→ay→Prop}(hl:aJ kvs.length 1000=ae)(hy:jv j kvs=ag y)(r:ou W κ.x κ.c st a nm kvs d)(K:∀d,Le ae a d→Rl W κ (ni nm (mM j kvs) st) d→Q () d.s):∀{vi:ao},bL j vi→aA W.M κ.A (delItem (.ref d) vi) Q E {a.s with toks:=t}
 |_,.mk tk=>by
  obtain⟨o,kv,g,D,hk,z,L,up⟩:=r
  have hD:a.s.heap.DictOf (intKind W.prog W.w) d kv:=Heap.dictOf_iff.mpr ⟨o,g,D⟩
  have hv:=hk.look (k:=j)
  rw[hy]at hv
  obtain⟨v,e,_⟩:=hv
  unfold delItem
  try with_reducible refine wpAny_holding ?_
  refine bq (wpAny_sequenceKey (s:={a.s with toks:=t}) hD.typeIs (by decide) ?_)
  refine bq (wpAny_callSpecial?_slot (name:=ai "__delitem__") hD.typeIs EJ
   (call_meetsIn EJ hD.typeIs PySem.F.entry_dict_delitem (PySem.F.args_dict_delitem_2 _ _) (meets_dict_delitem_pairs _ d (intKind_is _ _ j tk)) ⟨kv,hD,by rw[hk.length];exact wN hl,by rw[e];rfl,λh' yw hs=>?_⟩))
  obtain⟨o',i8,qK⟩:=Heap.dictOf_iff.mp yw
  exact dv (K (a.to {a.s with heap:=h',toks:=_}) (Le.to (.mk _ _)) (up _ o' _ _ hs i8 qK (hk.del (HE D))))
theorem abC(hG:cb W X G){o i:aw}{p pos:Pos}(h:Gv (Ob (keysAt G o st) λq=>Ob (ob (qE G 20 i st) V.i?) λj=>Ob (jv j q.2) λ_=>Tt (aJ q.2.length 1000) (k .next (ni q.1 (mM j q.2) st))) rr):RS W X G st k rr (.Delete [.Subscript o i p] pos):=
 a_ h λq hq h=>a_ h λj hj h=>aD hj λu hu hj=>a_ h λy hy h=>bF h λhl h=>Rz.leaf .next _ h λκ a _ Q E hi R K=>by
  refine wpAny_Delete (wpAny_deleteEach_cons ?_)
  rw[arm_delete_Subscript]
  refine bq (qY hG hq R λd t r=>bq (wpAny_holding (rD hG _ hu κ (R.tok t) λvi t' qR=>?_)))
  exact bq (wpAny_standAt (bq (wpAny_holding (Xq hl hy r (λd l R' =>wpAny_release' (wpAny_deleteEach_nil (K d .next l.weak ⟨rfl,R'⟩))) (dF hj qR)))))
theorem abA(H:gJ W X G n){id:Str}{p pos:Pos}{op:mj}{e:aw}(pd:uH op=ae)(h:Gv (Ob (ob (q8 G id st) FV.v?) λa=>bc G n e st (λb st=>Ob (kQ op a b) λv=>k .next (d7 id v st)) (exc k)) rr):RS W X G st k rr (.AugAssign (.Name id p) op e pos):=
 a_ h λb hb h=>aD hb λy hy hb=>by
  obtain⟨hk,hl⟩:=tn hy
  rw[kc hb]at hl
  exact Rz.as (λκ i Q E s=>wpAny_AugAssign_Name) (Rz.bind (A:=vA) (k₁:=λb st=>bc G n e st (λc st=>Ob (kQ op b c) λv=>k .next (d7 id v st)) (exc k)) (F:=λκ _ va(Q:Flow→ay→Prop) E s=>aA W.M κ.A (eval e κ.env) (λvb cu=>aA W.M κ.A (inplaceOp op va vb) (λv bV=>aA W.M κ.A (storeName κ.env id v) (λ_=>Q .next) E bV) E cu) E s)
   (Rz.leaf b st h λκ a i Q E hi R K=>by
    obtain⟨m,v,ns,e,hv⟩:=R.look hl
    exact wpAny_loadName_local κ.hA.kind (ju κ hk) ns e (kv K a v (Le.refl a) hv R))
   λb bj h=>Rz.bind (J:=cD.nil.and vA b) (F:=λκ i vb(Q:Flow→ay→Prop) E s=>aA W.M κ.A (inplaceOp op i.2 vb) (λv bV=>aA W.M κ.A (storeName κ.env id v) (λ_=>Q .next) E bV) E s) (H.E h) λc dc h=>a_ h λv hv h=>Rz.leaf .next _ h λκ a i Q E hi R K=>
    JA hv pd hi.1.2 hi.2 λu t hu=>rR (a:=a.to {a.s with toks:=t}) hk hu (R.tok t) λd l R' =>K d .next ((Le.to (.mk _ _)).trans l.weak) ⟨rfl,R'⟩)
theorem abP{C:aQ}{fs:FS}{nm:Str}{y:V}{expr:Bool}(hs:st.self=ag (C,fs))(hl:aV nm fs=ag (.v y))(ha:kP W.K C nm=ae)(R:Rl W κ st a)(K:Kv κ st y a Q):aA W.M κ.A (getAttr (.ref κ.x) nm expr) Q E a.s:=by
 obtain⟨f,_,m,o,es,n,c3,F,I,z,R',k⟩:=R.inst hs
 obtain⟨u,e,hu⟩:=R'.at_ hl
 exact ym κ.hA.bX F I ha e (VR.handed hu) (K.kv R u (a.s.toks+1) hu)
theorem abz(hG:cb W X G)(H:gJ W X G n){o nm:Str}{np p pos:Pos}{op:mj}{e:aw}(pd:uH op=ae)
 (h:Gv (Tt (gp G o st) (Ob st.self λc=>Ob (ob (wG G c.1 c.2 nm) FV.v?) λu=>bc G n e st (λb st=>Ob (kQ op u b) λv=>jC G nm (.v v) st λst=>k .next st) (exc k))) rr):RS W X G st k rr (.AugAssign (.Attribute (.Name o np) nm p) op e pos):=
 bF h λhs h=>a_ h λc hc h=>a_ h λu hu h=>aD hu λy hy hu=>by
  obtain⟨h1,h2⟩:=Ac hy
  rw[kc hu]at h1
  exact Rz.as (λκ i Q E s=>wpAny_AugAssign_AttributeAny) (Rz.pre (T:=λκ i(Q:Flow→ay→Prop) E s=>aA W.M κ.A (getAttr (.ref κ.x) nm ae) (λva cu=>aA W.M κ.A (eval e κ.env) (λvb bV=>aA W.M κ.A (inplaceOp op va vb) (λv iM=>aA W.M κ.A (setAttr (.ref κ.x) nm v) (λ_=>Q .next) E iM) E bV) E cu) E s)
   (λκ a i Q E hi R K=>wH hs R (K a (Le.refl a) R))
   (Rz.bind (A:=vA) (k₁:=λu st=>bc G n e st (λb st=>Ob (kQ op u b) λv=>jC G nm (.v v) st λst=>k .next st) (exc k)) (F:=λκ _ va(Q:Flow→ay→Prop) E s=>aA W.M κ.A (eval e κ.env) (λvb cu=>aA W.M κ.A (inplaceOp op va vb) (λv bV=>aA W.M κ.A (setAttr (.ref κ.x) nm v) (λ_=>Q .next) E bV) E cu) E s)
    (Rz.leaf u st h λκ a i Q E hi R K=>abP hc h1 (hG.attrs _ (o_ h2)) R (kv K))
    λu bj h=>Rz.bind (J:=cD.nil.and vA u) (F:=λκ i vb(Q:Flow→ay→Prop) E s=>aA W.M κ.A (inplaceOp op i.2 vb) (λv bV=>aA W.M κ.A (setAttr (.ref κ.x) nm v) (λ_=>Q .next) E bV) E s) (H.E h) λb dc h=>a_ h λv hv h=>Af h λC fs hc h2 hl h=>Rz.leaf .next _ h λκ a i Q E hi R K=>
     JA hv pd hi.1.2 hi.2 λu t hu=>Nj (a:=a.to {a.s with toks:=t}) hc (hG.attrs _ (o_ h2)) hl hu (R.tok t) λd l R' =>K d .next ((Le.to (.mk _ _)).trans l.weak) ⟨rfl,R'⟩))
theorem abD(H:gJ W X G n){e:aw}{pos:Pos}(h:Gv (Tt (fV e) (bc G n e st (λ_ st=>k .next st) (exc k))) rr):RS W X G st k rr (.Expr e pos):=
 bF h λhn h=>Rz.as (λκ i Q E s h=>wpAny_Expr_any (Q:=Q) h (by unfold interactive;show(κ.c.scope.kind==.module&&_)=af;rw[κ.hA.kind];rfl) (lB hn)) (Rz.bind (F:=λκ i v(Q:Flow→ay→Prop) E s=>Q .next s) (H.E h) λy bj h=>Rz.leaf .next _ h λκ a i Q E hi R K=>K a .next (Le.refl a) ⟨rfl,R⟩)
end
section
variable{W:Wd}{X:bU}{G:aX}{κ:aW W G}{a:Cf}{st st' :aq}{E:ao→ay→Prop}{n:Nat}{k:Out→aq→au}{rr:R}{s:ay}{A:eK}{fz:Cells}{x:aQ}
theorem El(κ:aW W G):(κ.env.scope.kind==.class||(κ.env.scope.kind==.module&&κ.env.locals !=κ.env.globals))=af:=by
 show(κ.c.scope.kind==.class||(κ.c.scope.kind==.module&&_))=af
 rw[κ.hA.kind];rfl
theorem PJ{sc:Scope}{id:Str}(h:kL (λy _=>!(seq y id)) sc.names=ae)(f:NameKind→Bool):(sc.names.any λp=>p.1==id&&f p.2)=af:=by
 rw[List.any_eq_false]
 intro p hp
 have fS:=dM (uD h p hp)
 have:(p.1==id)=af:=by
  cases q:p.1==id with
  |false=>rfl
  |true=>rw[eN.mpr (eq_of_beq q)]at fS;exact nt fS.symm
 rw[this,Bool.false_and];exact jW
theorem Nu{elt:aw}{gs:List Comprehension}{sc:Scope}{vp np:Pos}{l:Nat}{id:Str}(hk:isLocal (G.kind id)=ae)(hl:aH np.line vp.line=ae)(hn:kL (λy _=>!(seq y id)) sc.names=ae):swapsWith (.ListComp elt gs sc vp) (ag (.Name id np)) l κ.env=pure ae:=by
 show(pure (κ.env.blockKind==.function&&κ.env.kindOf id==ag .local&&np.line==vp.line&& !(sc.names.any λ(n,k)=>n==id&&(k==.local||k==.cell))):Sem Bool)=pure ae
 have e1:κ.env.blockKind==.function:=by
  unfold Env.blockKind
  show((if κ.c.scope.kind.isAnnotationScope then ScopeKind.function else κ.c.scope.kind)==.function)=ae
  rw[κ.hA.kind];rfl
 rw[e1,ju κ hk,bG hl,beq_self_eq_true vp.line]
 exact congrArg (λb=>(pure (ae&&(ag NameKind.local==ag NameKind.local)&&ae&& !b):Sem Bool)) (PJ hn λk=>k==.local||k==.cell)
def xt(κ:aW W G)(id:Str)(Q:Flow→ay→Prop)(E:ao→ay→Prop)(D C:aQ)(m:Str→Option ao)(s:ay):Prop:=aA W.M κ.A (storeName κ.env id (.ref D)) (λ_ s' =>∃m,s'.heap.Ns C m∧∀h',pL C s'.heap h' →Q .next {s' with heap:=h' }) E s
theorem Ht{elt iter:aw}{id z:Str}{np px vp pos:Pos}{sc:Scope}{Q:Flow→ay→Prop}(o:uh sc z)(hi:ng iter=ae)(V6:swapsWith (.ListComp elt [⟨.Name z px,iter,[],0⟩] sc vp) (ag (.Name id np)) pos.line κ.env=pure ae)
 (h:aA W.M κ.A (eval iter κ.env) (λva cu=>aeO κ sc z elt va (xt κ id Q E) E cu) E s):aA W.M κ.A (exec (.Assign [.Name id np] (.ListComp elt [⟨.Name z px,iter,[],0⟩] sc vp) pos) κ.env) Q E s:=by
 rw[exec_Assign_Name_used _ _ _ _ V6]
 refine bq (wpAny_standAt (bq ?_))
 show aA _ κ.A (do let _ ←comprehension (.ListComp elt [⟨.Name z px,iter,[],0⟩] sc vp) sc κ.env _ (newList []) af (eval iter κ.env) (ag (assign (.Name id np) κ.env))) _ _ s
 refine bq (iK (wpAny_comprehension_use (Q:=λ_ s' =>Q .next s') rfl (Em hi) o.free o.kind o.loc (iK h (λva cu cV=>?_) λ_ _ e=>e)) (λ_ s' hq=>dv (dv hq)) λ_ _ e=>e)
 obtain⟨F,cV⟩:=cV
 refine iK cV (λit bV hW=>?_) λ_ _ e=>e
 obtain⟨I,fp,wr,n,P,St,rfl,Wk,gP,qQ,qN,hq,hQ⟩:=hW
 exact comp_block_walk (RR:=λacc mK r s' =>match r with
  |.ok _=>aA W.M κ.A (assign (.Name id np) κ.env acc) (λ_ gy=>∃m,gy.heap.Ns mK.locals m∧∀h',pL mK.locals gy.heap h' →Q .next {gy with heap:=h' }) E s'
  |.error x=>∃m,s'.heap.Ns mK.locals m∧∀h',pL mK.locals s'.heap h' →aA W.M κ.A (passOn "comprehension.variables-let-go" x mK:Sem ao) (λ_ s' =>Q .next s') E {s' with heap:=h' }) Wk gP _ F o.cell o.kind o.id qQ qN hq
  λD C h' tk m' ys vs hD hC i4 hn hl qP hlen hP hF hk=>wpAny_assign_Name (hQ D C h' tk m' ys vs hD hC i4 hn qP hlen hP hF hk)
theorem Nh{D C:aQ}{id:Str}{h' :cG}{tk cc:Nat}{m' :Str→Option ao}{us:Array ao}{ys:List V}{Q:Flow→ay→Prop}(hk:isLocal (G.kind id)=ae)(i4:D≠C)(hD:a.s.heap.get? D=bg)(hC:a.s.heap.get? C=bg)(hn:h'.Ns C m')(hp:h'.get? D=ag (cM us cc))(hv:aS W a.fz κ.x ys us.toList)(keep:∀b o,a.s.heap.get? b=ag o→h'.get? b=ag o)(R:Rl W κ st a)
 (K:∀d,Le ae a d→Rl W κ (d7 id (.lst ys) st) d→Q .next d.s):xt κ id Q E D C m' {a.s with heap:=h',toks:=tk}:=by
 obtain⟨m,c1,f,e,⟨c2,F,H,S⟩,L⟩:=R
 have ne:∀{b:aQ},a.s.heap.get? b=bg→b≠κ.c.L:=λe q=>by
  obtain⟨oL,_,_,hL,_⟩:=F.ns
  rw[q,hL]at e;cases e
 refine wpAny_storeName_local (s:={a.s with heap:=h',toks:=tk}) (ju κ hk) (F.ns.keeps keep) (λpf VW Dg=>⟨m',hn.sameBut Dg (ne hC),λJy Dh=>?_⟩) (El κ)
 have kp:∀b o,b≠κ.c.L→a.s.heap.get? b=ag o→Jy.get? b=ag o:=λb o hb e=>Dh.extBut b o (λq=>by rw[q,hC]at e;cases e) (Dg.extBut b o hb (keep b o e))
 exact K (a.fr (D,cM us cc) {a.s with heap:=Jy,toks:=_}) (Le.fr (.mk _ _)) ⟨_,c1,f,e,⟨c2,⟨VW.sameBut Dh (ne hC).symm,λb ob e=>kp b ob (nK (Lx (ru e) F.above)) (F.keep b ob e),F.above⟩,(H.cons F hD kp (Dh.extBut D _ i4 (Dg.extBut D _ (ne hD) hp))).perm tL.symm,S.up (Sub.cons _ _)⟩,
  (L.up (Sub.cons _ _) (Sub.refl _)).put (cf.mk D us cc (.here _ _) (hv.up (Sub.cons _ _)):VR W _ κ.x (.lst ys) _) (if_pos rfl) λb hb=>if_neg hb⟩
theorem abB(H:gJ W X G n){id:Str}{np pos:Pos}{e:aw}{q:Comp}(hk:isLocal (G.kind id)=ae)(hq:BB e=ag q)(hc:(qt q.sc q.id&&(ng q.iter&&(G.quiet&&(aH np.line q.pos.line&&(kL (λy _=>!(seq y id)) q.sc.names&& !(seq q.id oN))))))=ae)
 (h:Gv (bc G n q.iter st (λv st=>Ob (lQ q.elt q.id v) λys=>k .next (d7 id (.lst ys) st)) (exc k)) rr):RS W X G st k rr (.Assign [.Name id np] e pos):=by
 obtain⟨c1,hc⟩:=aF hc
 obtain⟨c2,hc⟩:=aF hc
 obtain⟨c3,hc⟩:=aF hc
 obtain⟨c4,hc⟩:=aF hc
 obtain⟨c5,c6⟩:=aF hc
 have o:=BC c1
 cases e<;>first|exact no hq|skip
 obtain⟨px,e⟩:=Hs hq
 rw[e]
 exact Rz.as (λκ i Q E s=>Ht o c2 (Nu hk c4 c5)) (Rz.bind (F:=λκ i va Q E s=>aeO κ q.sc q.id q.elt va (xt κ id Q E) E s) (H.E h) λv bj h=>a_ h λys qV h=>aD qV λl hl qV=>bK qV λhs hm=>Rz.leaf .next _ h λκ a i Q E hi R K=>
  BD o (BI c6) (κ.quiet c3) (aF hs).1 (aF hs).2 hm R (λD C h' tk m' us cc i4 hD hC hn hp hv keep=>Nh hk i4 hD hC hn hp hv keep R λd l R' =>K d .next l.weak ⟨rfl,R'⟩) (jS hl hi.2))
end
section
variable(W:Wd)(X:bU)(G:aX)
def bY(s:aG)(F:Lp):Prop:=∀{st k r},Gv (F st k) r→RS W X G st k r s
def du(l:List aG):Prop:=∀s∈l,∀F,gQ s.pos.line G.loops=ag F→bY W X G s F
def AW(n:Nat):Prop:=∀{s st k r},du W X G (D0 s)→Gv (xU G n s st k) r→RS W X G st k r s
def qh(n:Nat):Prop:=∀{s st k r},du W X G (cC s)→Gv (aN G n s st k) r→mG W X G st k r s
def ip:Prop:=∀{x:aQ}{c:Act}{A:eK}{st:aq}{a:Cf}{C fI:aQ}{fs:List (Str×V)}{ev:ao}{s:ay}{t:aw}{nm:Str}{Bu:aG}{FF:List aG}{pos:Pos}{hs:List ExceptHandler}{Q:Flow→ay→Prop}{E:ao→ay→Prop},
 il W c A→c.base=c.h₀→pS W.K C fI=ae→c.env.kindOf nm=ag .local→Xv W X x c a (.obj C fs) st ev s→
 (∀A' m s' (Q:ao→ay→Prop)(E:ao→ay→Prop),Fr c.h₀ c.L s'.heap m→Q (.ref C) s' →aA W.M A' (eval t c.env) Q E s')→
 (∀d,Le af a d→Rel W x c (d7 nm (.obj C fs) ⟨st.loc,bg,st.free⟩) d→
  aA W.M (A.mark (ag ev)) (execs (Bu::FF) c.env) (λf wV=>aA W.M A (do bindName c.env nm .none;unbindBehindTheSuite c.env nm pos) (λ_ adf=>Q f adf) E wV) (λ_ _=>False) d.s)→
 aA W.M A (noteFrame ev c.env) (λ_ bV=>aA W.M A (setFlight ev bg) (λ_ iM=>aA W.M A (handleBy ev c.env (.ExceptHandler (ag t) (ag nm) (Bu::FF) pos::hs)) Q E iM) E bV) E s
end
section
variable{W:Wd}{X:bU}{G:aX}{κ:aW W G}{a:Cf}{st st' :aq}{E:ao→ay→Prop}{n:Nat}{k:Out→aq→au}{rr:R}{s:ay}{A:eK}{fz:Cells}{x:aQ}
theorem Rz.drop{b:Bool}{α β:Type}{J:cD W G}{T:(κ:aW W G)→Tr α}{C:Po W G β α}{k:β→aq→au}{x:V→aq→au}(H:Rz X cD.nil b (λκ _=>T κ) st C k x rr):Rz X J b (λκ _=>T κ) st C k x rr:=by
 rcases H with⟨y,st',H,h⟩|⟨y,st',H,h⟩
 ·exact .ok y st' (λκ a i hi=>H κ a () trivial) h
 ·exact .ex y st' (λκ a i hi=>H κ a () trivial) h
theorem abE(H:gJ W X G n)(ih:qh W X G n){t:aw}{b o:List aG}{pos:Pos}(HL:du W X G (D0 (.If t b o pos)))(h:Gv (iV G n t st (λc st=>Br c (aN G n b st k) (aN G n o st k)) (exc k)) rr):RS W X G st k rr (.If t b o pos):=
 Rz.as (λκ i Q E s=>wpAny_If) (Rz.bind (F:=λκ i b' (Q:Flow→ay→Prop) E s=>if b' then aA W.M κ.A (execs b κ.env) Q E s else aA W.M κ.A (execs o κ.env) Q E s) (H.T h) λc bj h=>mB h
  (λeb h=>Rz.pre (J:=cD.nil.and (eA Bool) c) (λκ a i Q E hi R K=>by
   rw[show i.2=ae from(hi.2:i.2=c).trans eb,if_pos rfl];exact K a (Le.refl a) R) (Rz.drop (ih (λq hq=>HL q (ib _ hq)) h)))
  λeb h=>Rz.pre (J:=cD.nil.and (eA Bool) c) (λκ a i Q E hi R K=>by
   rw[show i.2=af from(hi.2:i.2=c).trans eb,if_neg jW];exact K a (Le.refl a) R) (Rz.drop (ih (λq hq=>HL q (bM _ hq)) h)))
theorem abd{e:aw}{pos:Pos}{Q:Flow→ay→Prop}(hq:κ.A.handled=bg)(h:aA W.M κ.A (eval e κ.env) (λv bV=>oz W.K E bV v) E s):aA W.M κ.A (exec (.Raise (ag e) bg pos) κ.env) Q E s:=by
 rw[arm_exec_Raise]
 refine bq (wpAny_standAt (abe (K:=W.K) hq (bq (iK h (λv bV q=>?_) λ_ _ e=>e))))
 exact bq (wpAny_standAt (dv q))
theorem SG{C fI:aQ}{ns:List Str}{ys:List V}{vs:List ao}{fs:List (Str×V)}(hq:κ.A.handled=bg)(hx:qb W X G.dep C fI ns)(hn:d6 ys=ae)(hf:oS ns ys=ag fs)(hv:aS W a.fz κ.x ys vs)(R:Rl W κ st a)(K:∀ev s',Xv W X κ.x κ.c a (.obj C fs) st ev s' →E ev s'):aA W.M κ.A (call (.ref C) vs) (λv bV=>oz W.K E bV v) E a.s:=by
 obtain⟨m,c1,f,e,N0,L⟩:=R
 refine iK (hx.2 f κ.x κ.c κ.A m st.self (c1++a.rest) a.fz a.s ys vs fs κ.hA hq κ.room N0 hv hn hf) (λv s' q=>?_) λ_ _ q=>q.elim
 obtain⟨e,dd,sl,t,bz,k,g,hf,h,u⟩:=q
 exact⟨C,fI,e,dd,sl,t,hx.1,k,g,K _ _ ⟨bz,m,c1,_,hf,h,L.up hf (Sub.refl _),u⟩⟩
theorem QW{e:aw}{q:aw×List aw×List Keyword×Pos}(h:qq e=ag q):e=.Call q.1 q.2.1 q.2.2.1 q.2.2.2:=by
 obtain⟨hc,rfl⟩:=ud h
 exact we (motive_1:=λe=>∀h:e.ctorIdx=16,e=.Call (we (motive_1:=λ_=>aw×List aw×List Keyword×Pos) e h λf args aE p=>(f,args,aE,p)).1 (we (motive_1:=λ_=>aw×List aw×List Keyword×Pos) e h λf args aE p=>(f,args,aE,p)).2.1 (we (motive_1:=λ_=>aw×List aw×List Keyword×Pos) e h λf args aE p=>(f,args,aE,p)).2.2.1 (we (motive_1:=λ_=>aw×List aw×List Keyword×Pos) e h λf args aE p=>(f,args,aE,p)).2.2.2) e hc (λf args aE p h=>rfl) hc
theorem abb{e c:Option aw}{q:Str×Pos×List aw×List Keyword×Pos}(h:raiseOf e c=ag q):e=ag (.Call (.Name q.1 q.2.1) q.2.2.1 [] q.2.2.2.2)∧c=bg:=dn h (λ_ _ h=>no h) λhc h=>aD h λe' he h=>aD h λz hz h=>aD h λp hp h=>bK h λhk h=>by
 rw[so h,he,QW hz,rl hp,c_ hk]
 exact⟨rfl,hc⟩
theorem abG(hG:cb W X G)(H:gJ W X G n){e c:Option aw}{pos:Pos}(h:Gv (Ob (raiseOf e c) λq=>Tt (G.quiet&&gU q.2.2.1 []) (bc G n (.Name q.1 q.2.1) st (λv st=>Ob (refOf v) λC=>Tt (k9 C G.g7) (dS G n q.2.2.1 st (λvs st=>H0 G C vs λy=>k (.exc y) st) (exc k))) (exc k))) rr):RS W X G st k rr (.Raise e c pos):=
 a_ h λq hq h=>bF h λhc h=>by
  obtain⟨e1,e2⟩:=abb hq
  rw[e1,e2]
  obtain⟨Jr,ha⟩:=aF hc
  obtain⟨hu,hw,_⟩:=tK ha
  exact Rz.as (λκ i Q E s h=>abd (κ.quiet Jr) (wpAny_Call_Name_kw h)) (Rz.bind (F:=λκ i f(Q:Flow→ay→Prop) E s=>cT q.2.2.2.2 q.2.2.1 [] κ f (λv bV=>oz W.K E bV v) E s) (H.E h) λv bj h=>a_ h λC hC h=>bF h λhx h=>by
   obtain⟨p,hm⟩:=yp hx
   have kept:=vO (hG.g7 _ hm).1
   exact Rz.as (λκ i Q E s(h:cT q.2.2.2.2 q.2.2.1 [] κ i.2 (λv bV=>oz W.K E bV v) E s)=>h) (Rz.pre (J:=cD.nil.and vA v) (T:=λκ i(Q:Flow→ay→Prop) E s=>aA W.M κ.A (spliced (backTo q.2.2.2.2 (starEach q.2.2.1 κ.env))) (λvs bV=>W.K.In bV.heap∧aA W.M κ.A (call (.ref C) vs) (λv bV=>oz W.K E bV v) E bV) E s)
    (λκ a i Q E hi R K=>by
     rw[z8 hC hi.2]
     exact callWith_of (P:=W.K.In) (by rw[(rQ hu).2,(ph hw).2];rfl) kept (sC hu hw (iK (K a (Le.refl a) R) (λvs bV h=>kwAll_nil h) λ_ _ e=>e)))
    (Rz.bind (F:=λκ i vs(Q:Flow→ay→Prop) E s=>W.K.In s.heap∧aA W.M κ.A (call (.ref C) vs) (λv bV=>oz W.K E bV v) E s) (H.A hu h q.2.2.2.2) λys dc h=>a_ h λp hp h=>bF h λhn h=>a_ h λfs hf h=>
     .ex (.obj C fs) dc (λκ a i hi c Q E lc R K=>⟨R.bX κ.hA.bX,SG (κ.quiet Jr) (hG.g7 _ (vV hp)).2 hn hf (hi.2.up lc.fz) R K⟩) h)))
end
section
variable{W:Wd}{X:bU}{G:aX}{κ:aW W G}{a:Cf}{st st' :aq}{E:ao→ay→Prop}{n:Nat}{k:Out→aq→au}{rr:R}{s:ay}{A:eK}{fz:Cells}{x:aQ}
theorem Wa(hG:cb W X G):cb W X G.pe where
 keeps q hq:=(hG.calm q hq).1
 ctors q hq:=nomatch hq
 jq:=hG.jq
 attrs:=hG.attrs
 meths:=hG.meths
 fns q hq:=(hG.calm q hq).2
 jI:=hG.jI
 insts:=hG.insts
 calm q hq:=nomatch hq
 g7 q hq:=nomatch hq
noncomputable def aW.pe(κ:aW W G)(ev:ao):aW W G.pe:=⟨κ.x,κ.c,κ.A.mark (ag ev),⟨κ.hA.below,κ.hA.bX,κ.hA.top,κ.hA.frames,κ.hA.kind⟩,λh=>nt h,κ.room,λh=>nt h,κ.kind,κ.hd⟩
theorem Ry{α:Type}{b:Str}{v:α}{l:List (Str×α)}:iU b (di b v l)=iU b l:=by
 induction l with
 |nil=>unfold di iU;rw[Ae];rfl
 |cons p r ih=>
  unfold di
  cases q:seq b p.1 with
  |true=>unfold iU;rw[q]
  |false=>unfold iU;rw[q];exact congrArg _ ih
theorem adS{id:Str}{pos:Pos}{Q:Unit→ay→Prop}(hk:isLocal (G.kind id)=ae)(R:Rl W κ st a)(K:∀d,Le ae a d→Rl W κ ⟨iU id st.loc,st.self,st.free⟩ d→Q () d.s):aA W.M κ.A (do bindName κ.env id .none;unbindBehindTheSuite κ.env id pos) Q E a.s:=by
 refine bq (wpAny_bindName (rR (y:=.none) hk rfl R λb l sd=>?_))
 unfold unbindBehindTheSuite
 refine wpAny_onRaise ?_
 obtain⟨m,c1,f,e,⟨c2,F,H,S⟩,L⟩:=sd
 obtain⟨v,hm,_⟩:=L.at_ (a:=id) (y:=.v .none) (look_same _)
 refine wpAny_unbindName_local (ju κ hk) F.ns hm (El κ) λh' u hn hs=>K (b.to {b.s with heap:=h' }) (l.trans (Le.to (.mk h' b.s.toks))) ⟨_,c1,f,e,⟨c2,F.set hn hs,⟨H.N.set hs,H.D⟩,S⟩,?_⟩
 have:=L.del (g' :=λz=>if z=id then u else m z) λz hz=>if_neg hz
 rw[show iU id (d7 id .none st).loc=iU id st.loc from Ry]at this
 exact this
theorem FO{b:List aG}{h₀:ExceptHandler}{hs:List ExceptHandler}{pos:Pos}{Q:Flow→ay→Prop}(h:aA W.M κ.A (execs b κ.env) Q (λe cu=>aA W.M κ.A (noteFrame e κ.env) (λ_ bV=>aA W.M κ.A (setFlight e bg) (λ_ iM=>aA W.M κ.A (handleBy e κ.env (h₀::hs)) Q E iM) E bV) E cu) s):aA W.M κ.A (exec (.Try b (h₀::hs) [] [] pos) κ.env) Q E s:=
 wpAny_Try_except (iK h (λf cu h=>by cases f<;>first|exact wpAny_execs_nil h|exact h) λ_ _ e=>e)
theorem abI(ih:qh W X G n){b:List aG}{hs:List ExceptHandler}{pos:Pos}(HL:du W X G (cC b))(h:Gv (Tt (cY hs) (aN G n b st (λo st=>qz o (λ_=>fail) (λo=>k o st)))) rr):RS W X G st k rr (.Try b hs [] [] pos):=by
 refine bF h λhn h=>?_
 cases hs with
 |nil=>exact nt hn
 |cons h₀ hs=>
  have h:mG W X G st (λo st=>qz o (λ_=>fail) (λo=>k o st)) rr b:=ih HL h
  rcases h with⟨o,st',H,h⟩|⟨y,st',H,h⟩
  ·have h:Gv (k o st') rr:=by cases o<;>first|exact h|exact No h
   exact .ok o st' (λκ a i hi c Q E lc R K=>FO (H κ a i hi c _ _ lc R K)) h
  ·exact No h
theorem GQ{s:aG}{q:List aw×aw×Pos}(h:Bc s=ag q):s=.Assign q.1 q.2.1 q.2.2:=by
 obtain⟨hc,rfl⟩:=ud h
 exact zy (motive_2:=λs=>∀h:s.ctorIdx=5,s=.Assign (zy (motive_2:=λ_=>List aw×aw×Pos) s h λts e p=>(ts,e,p)).1 (zy (motive_2:=λ_=>List aw×aw×Pos) s h λts e p=>(ts,e,p)).2.1 (zy (motive_2:=λ_=>List aw×aw×Pos) s h λts e p=>(ts,e,p)).2.2) s hc (λts e p h=>rfl) hc
theorem PN{s:aG}{q:Str×aw}(h:GR s=ag q):∃tp p,s=.Assign [.Name q.1 tp] q.2 p:=aD h λz hz h=>aD h λt ht h=>aD h λid gn h=>by
 obtain⟨tp,e⟩:=ly gn
 rw[so h,GQ hz,dN ht,e]
 exact⟨tp,_,rfl⟩
inductive Gs(h:Hand):List ExceptHandler→Prop
 |mk (np tp ap hp:Pos):Gs h [.ExceptHandler (ag (.Name h.id np)) (ag h.nm) [.Assign [.Name h.tid tp] h.e ap] hp]
theorem Vo{hs:List ExceptHandler}{h:Hand}(e:handOf hs=ag h):Gs h hs:=aD e λz hz e=>by
 cases z with
 |ExceptHandler t nm b hp=>
  refine aD e λt ht e=>aD e λid gn e=>aD e λnm hn e=>aD e λs hs e=>aD e λp hp e=>?_
  obtain⟨np,e1⟩:=ly gn
  obtain⟨tp,ap,e2⟩:=PN hp
  rw[so e,dN hz,ht,e1,hn,dN hs,e2]
  exact⟨np,tp,ap,_⟩
inductive Gh(W:Wd)(X:bU)(G:aX)(h:Hand)(y:V)(st:aq)(k:Out→aq→au)(r:R):Prop
 |mk (C fI:aQ) (fs:List (Str×V)) (e:y=.obj C fs) (k1:isLocal (G.kind h.nm)=ae) (k2:isLocal (G.kind h.tid)=ae) (k3:qW (G.kind h.id)=ae) (k5:G.top=ae) (k6:fV h.e=ae) (v:V) (g:qd W h.id v) (hv:refOf v=ag C) (ok:pS W.K C fI=ae)
  (q:Gv (bc G.pe 60 h.e (d7 h.nm (.obj C fs) ⟨st.loc,bg,st.free⟩) (λv st=>k .next ⟨iU h.nm (di h.tid (.v v) st.loc),st.self,st.free⟩) (λ_ _=>fail)) r):Gh W X G h y st k r
theorem QZ(hG:cb W X G){h:Hand}{y:V}(e:Gv (si G h y st k) rr):Gh W X G h y st k rr:=a_ e λc hc e=>bF e λhh e=>a_ e λD hD e=>aD hD λv hv hD=>bF e λhI e=>by
 obtain⟨k1,hh⟩:=aF hh
 obtain⟨k2,hh⟩:=aF hh
 obtain⟨k3,hh⟩:=aF hh
 obtain⟨_,hh⟩:=aF hh
 obtain⟨k5,k6⟩:=aF hh
 obtain⟨i1,i2⟩:=aF hI
 rw[←bG i1]at hD
 obtain⟨⟨fI,ns⟩,hm⟩:=yp i2
 exact⟨c.1,fI,c.2,Eu hc,k1,k2,k3,k5,k6,v,hG.jq _ (Kj hv),hD,(hG.g7 _ hm).2.1,e⟩
theorem U4{id:Str}{np:Pos}{y:V}{C:aQ}{s' :ay}{m:Str→Option ao}{A' :eK}{Q:ao→ay→Prop}(hg:qd W id y)(hk:qW (G.kind id)=ae)(hr:refOf y=ag C)(F:Fr κ.c.h₀ κ.c.L s'.heap m)(K:Q (.ref C) s'):aA W.M A' (eval (.Name id np) κ.env) Q E s' :=by
 rcases hg with⟨v,e,hv⟩|⟨v,e,e2,e3,hv⟩
 ·rw[z8 hr (hv κ.x)]at e
  exact nameX_K F κ.hA.bX κ.hA.top e K κ.hA.kind (o7 κ hk) (qZ κ (o7 κ hk))
 ·rw[z8 hr (hv κ.x)]at e2
  exact nameX_B F κ.hA.bX κ.hA.top e e2 e3 K κ.hA.kind (o7 κ hk) (qZ κ (o7 κ hk))
theorem abJ(hG:cb W X G)(hX:ip W X)(ih:qh W X G n){b:List aG}{hs:List ExceptHandler}{h' :Hand}{pos:Pos}(hh:handOf hs=ag h')(HL:du W X G (cC b))(h:Gv (aN G n b st (λo st=>qz o (λy=>si G h' y st k) (λo=>k o st))) rr):RS W X G st k rr (.Try b hs [] [] pos):=by
 obtain⟨np,tp,ap,hp⟩:=Vo hh
 have fin:∀{y st'},Gv (si G h' y st' k) rr→(∀κ:aW W G,∀a,AN W X κ a (aA W.M κ.A (execs b κ.env)) st y st')→RS W X G st k rr (.Try b [.ExceptHandler (ag (.Name h'.id np)) (ag h'.nm) [.Assign [.Name h'.tid tp] h'.e ap] hp] [] [] pos):=λh H=>by
  obtain⟨C,fI,fs,e,k1,k2,k3,k5,k6,v,g,hv,ok,q⟩:=QZ hG h
  have q:RE W X G.pe .nil (λ_ _=>fail) rr _ h'.e _:=(rO (Wa hG) 60).E q
  rcases q with⟨u,dc,H2,h2⟩|⟨_,_,_,h2⟩
  ·refine .ok .next _ (λκ a i hi c Q E lc R K=>FO (H κ a c _ _ lc R λev s' xv=>hX κ.hA (κ.top k5) ok (ju κ k1) (e▸xv) (λA' m s' Q E F hq=>U4 g k3 hv F hq) λd l R' =>?_)) h2
   exact wpAny_execs_cons (wpAny_Assign_Name (H2 (κ.pe ev) d () trivial d _ _ (Le.refl d) R' λb w lb hb=>rR (κ:=κ.pe ev) k2 hb.1 hb.2 λb' Xz AP=>wpAny_execs_nil (adS k1 AP λPW XA R3=>K PW .next (l.trans (lb.weak.trans (Xz.weak.trans XA.weak))) ⟨rfl,R3⟩)) (lB k6))
  ·exact No h2
 have h:mG W X G st (λo st=>qz o (λy=>si G h' y st k) (λo=>k o st)) rr b:=ih HL h
 rcases h with⟨o,st',H,h⟩|⟨y,st',H,h⟩
 ·cases o with
  |exc y=>exact fin h λκ a c Q E lc R K=>H κ a () trivial c _ E lc R λd f ld hf=>hf.1.elim
  |_=>exact .ok _ st' (λκ a i hi c Q E lc R K=>FO (H κ a i hi c _ _ lc R K)) h
 ·exact fin h λκ a=>H κ a () trivial
theorem abv(hG:cb W X G)(H:gJ W X G n){t e:aw}{pos:Pos}(h:Gv (Oe (jx t) (λa=>Tt (isLocal (G.kind a.1)) (Oe (BB e) (λq=>Tt (qt q.sc q.id&&(ng q.iter&&(G.quiet&&(aH a.2.line q.pos.line&&(kL (λy _=>!(seq y a.1)) q.sc.names&& !(seq q.id oN))))))
 (bc G n q.iter st (λv st=>Ob (lQ q.elt q.id v) λys=>k .next (d7 a.1 (.lst ys) st)) (exc k)))
 (Tt (fV e) (Bs (sM e) (kU G n e st (λl st=>k .next (wz a.1 l st)) (exc k)) (bc G n e st (λv st=>k .next (d7 a.1 v st)) (exc k))))))
 (Oe (oH t) (λa=>Ob (nameOf a.1) λo=>Tt (fV e) (Bs (K3 e) (kU G n e st (λl st=>Tt (gp G o st&&st.free) (jC G a.2.1 (.own l) st λst=>k .next st)) (exc k))
  (Bs (noDict e) (Tt (gp G o st) (jC G a.2.1 (.keys []) st λst=>k .next st)) (bc G n e st (λv st=>Tt (gp G o st) (jC G a.2.1 (.v v) st λst=>k .next st)) (exc k)))))
 (Oe (Au t) (λa=>Tt (G.quiet&&(zo e&&fV e)) (bc G n e st (λv st=>Ob v.t? λvs=>tupK G a.1 vs st k) (exc k)))
 (Ob (Ar t) λa=>Tt (fV e) (bc G n e st (λv st=>Ob (keysAt G a.1 st) λq=>Ob (ob (qE G 20 a.2.1 st) V.i?) λj=>Tt (aJ q.2.length 1000) (k .next (ni q.1 (pR j v q.2) st))) (exc k)))))) rr):RS W X G st k rr (.Assign [t] e pos):=
 eC h (λa ha h=>by
  rw[rl ha]
  exact bF h λhk h=>eC h (λq hq h=>bF h λhc h=>abB H hk hq hc h) λ_ h=>bF h λhn h=>xe h (λ_ h=>s_fresh H hk hn h) λ_ h=>abF H hk hn h)
 λ_ h=>eC h (λa ha h=>a_ h λid gn h=>bF h λhn h=>by
  obtain⟨np,e⟩:=ly gn
  rw[xw ha,e]
  exact xe h (λ_ h=>aby hG H hn h) λ_ h=>xe h (λhd h=>abx hG hd h) λ_ h=>abw hG H hn h)
 λ_ h=>eC h (λa ha h=>by rw[NL ha];exact abK H h) λ_ h=>a_ h λa ha h=>by rw[Np ha];exact abH hG H h
theorem acL(hG:cb W X G)(hX:ip W X)(ih:qh W X G n):AW W X G (n+1):=by
 intro s st k r HL h
 have H:=rO (W:=W) (X:=X) hG n
 cases s with
 |Return e pos=>
  cases e with
  |none=>exact Rz.leaf (.ret .none) st h λκ a i Q E hi R K=>wpAny_Return_none (K a _ (Le.refl a) ⟨.mk _ rfl,R⟩)
  |some e=>exact Rz.as (λκ i Q E s=>wpAny_Return_some) (Rz.bind (F:=λκ i v(Q:Flow→ay→Prop) E s=>Q (.ret v) s) (H.E h) λy bj h=>Rz.leaf (.ret y) bj h λκ a i Q E hi R K=>K a _ (Le.refl a) ⟨.mk _ hi.2,R⟩)
 |Assign ts e pos=>
  refine a_ h λt ht h=>?_
  rw[dN ht]
  exact abv hG H h
 |Delete ts pos=>
  refine a_ h λt ht h=>a_ h λa ha h=>?_
  rw[dN ht,Np ha];exact abC hG h
 |AugAssign t op e pos=>
  refine bF h λpd h=>eC h (λa ha h=>?_) λ_ h=>a_ h λa ha h=>a_ h λid gn h=>?_
  ·rw[rl ha];exact abA H pd h
  ·obtain⟨np,e⟩:=ly gn
   rw[xw ha,e];exact abz hG H pd h
 |Expr e pos=>exact abD H h
 |If t b o pos=>exact abE H ih HL h
 |While t b o p=>exact a_ h λF hF h=>HL _ (.head _) F hF h
 |For t i b o p=>exact a_ h λF hF h=>HL _ (.head _) F hF h
 |Raise e c pos=>exact abG hG H h
 |Try b hs o f pos=>
  refine bF h λhn h=>?_
  rw[c_ (aF hn).1,c_ (aF hn).2]
  exact eC h (λh' hh h=>abJ hG hX ih hh HL h) λ_ h=>abI ih HL h
 |Pass pos=>exact Rz.leaf .next st h λκ a i Q E hi R K=>wpAny_Pass (K a _ (Le.refl a) ⟨rfl,R⟩)
 |Break pos=>exact Rz.leaf .brk st h λκ a i Q E hi R K=>wpAny_Break (K a _ (Le.refl a) ⟨rfl,R⟩)
 |Continue pos=>exact Rz.leaf .cont st h λκ a i Q E hi R K=>wpAny_Continue (K a _ (Le.refl a) ⟨rfl,R⟩)
 |_=>exact No h
theorem Tj{o:Out}(h:AH W fz x o .next):o=.next:=by
 cases o with
 |next=>rfl
 |ret y=>exact nomatch(h:uv _ _)
 |exc y=>exact h.elim
 |_=>exact nomatch(h:Flow.next=_)
theorem acM(Wq:AW W X G n)(ih:qh W X G n):qh W X G (n+1):=by
 intro ss st k r HL h
 cases ss with
 |nil=>exact Rz.leaf .next st h λκ a i Q E hi R K=>wpAny_execs_nil (K a _ (Le.refl a) ⟨rfl,R⟩)
 |cons s ss=>
  have h:RS W X G st (λo st=>tJ o (aN G n ss st k) (λo=>k o st)) r s:=Wq (λq hq=>HL q (ib _ hq)) h
  rcases h with⟨o,bj,H,h⟩|⟨y,st',H,h⟩
  ·have two:o=.next∨(o≠ .next∧Gv (k o bj) r):=by cases o<;>first|exact .inl rfl|exact .inr ⟨(λe=>nomatch e),h⟩
   rcases two with e|⟨e,h⟩
   ·rw[e]at h H
    have h:mG W X G bj k r ss:=ih (λq hq=>HL q (bM _ hq)) h
    rcases h with⟨o',dc,H2,h2⟩|⟨y,dc,H2,h2⟩
    ·exact .ok o' dc (λκ a i hi c Q E lc R K=>wpAny_execs_cons (H κ a i hi c _ E lc R λd f ld hf=>by rw[show f=.next from hf.1];exact H2 κ d () trivial d Q E (Le.refl d) hf.2 λd' f' l' =>K d' f' (ld.trans l'))) h2
    ·exact .ex y dc (λκ a i hi c Q E lc R K=>wpAny_execs_cons (H κ a i hi c _ E lc R λd f ld hf=>by rw[show f=.next from hf.1];exact H2 κ d () trivial d Q E (Le.refl d) hf.2 λev s' xv=>K ev s' (xv.up ld))) h2
   ·exact .ok o bj (λκ a i hi c Q E lc R K=>wpAny_execs_cons (H κ a i hi c _ E lc R λd f ld hf=>by
     cases f with
     |next=>exact absurd (Tj hf.1) e
     |_=>exact K d _ ld hf)) h
  ·exact .ex y st' (λκ a i hi c Q E lc R K=>wpAny_execs_cons (H κ a i hi c _ E lc R K)) h
theorem rP(hG:cb W X G)(hX:ip W X)(n:Nat):AW W X G n∧qh W X G n:=by
 induction n with
 |zero=>exact⟨λ_ h=>No h,λ_ h=>No h⟩
 |succ n ih=>exact⟨acL hG hX ih.2,acM ih.1 ih.2⟩
end
section
variable{W:Wd}{fz:Cells}{x:aQ}
theorem dW.names{l:List (Str×V)}:∀{bs:List (Str×ao)},dW W fz x l bs→bs.map (·.1)=l.map (·.1):=by
 induction l with
 |nil=>intro bs h;rw[(h:bs=[])];rfl
 |cons p l ih=>intro bs h;obtain⟨v,r,hv,hr⟩:=(h:dH _ _ _);rw[rA,rA,ih hr,hv.1]
theorem X0{bs:List (Str×ao)}{a:Str}(h:a∉bs.map (·.1)):bs.lookup a=bg:=List.lookup_eq_none_iff.mpr λp hp=>by
 cases q:a==p.1 with
 |false=>unfold bne;rw[q];rfl
 |true=>exact absurd (List.mem_map.mpr ⟨p,hp,(eq_of_beq q).symm⟩) h
theorem dW.got{a:Str}{y:V}{l:List (Str×V)}:∀{bs:List (Str×ao)},dW W fz x l bs→(l.map (·.1)).Nodup→aV a l=ag y→iQ (bs.reverse.lookup a) (VR W fz x y):=by
 induction l with
 |nil=>intro bs _ _ h;cases h
 |cons p l ih=>
  intro bs h hn hl
  obtain⟨v,r,hv,hr⟩:=(h:dH _ _ _)
  obtain⟨h1,h2⟩:=List.nodup_cons.mp hn
  rw[List.reverse_cons,List.lookup_append]
  unfold aV at hl
  cases q:seq a p.1 with
  |true=>
   rw[q]at hl;cases hl
   rw[eN.mp q,X0 (by rw[List.map_reverse,List.mem_reverse,hr.names];exact h1),Option.none_or,List.lookup_cons,hv.1,beq_self_eq_true]
   exact⟨_,rfl,hv.2⟩
  |false=>
   rw[q]at hl
   obtain⟨u,e,hu⟩:=ih hr h2 hl
   rw[e];exact⟨u,rfl,hu⟩
noncomputable def eB(l:List (Str×V)):FS:=l.map λp=>(p.1,.v p.2)
theorem Gx{a:Str}{y:FV}{l:List (Str×V)}(h:aV a (eB l)=ag y):∃z,y=.v z∧aV a l=ag z:=by
 induction l with
 |nil=>cases h
 |cons p l ih=>
  unfold eB at h ih
  rw[rA]at h
  unfold aV at h⊢
  cases q:seq a p.1 with
  |true=>
   have h:ag (FV.v p.2)=ag y:=by rw[←h];show _=match seq a p.1 with|true=>_|false=>_;rw[q]
   exact⟨p.2,so h,rfl⟩
  |false=>
   have h:aV a (l.map λp=>(p.1,FV.v p.2))=ag y:=by rw[←h];show _=match seq a p.1 with|true=>_|false=>_;rw[q]
   exact ih h
end
structure xd(W:Wd)(fn:FuncData)(names:List (Str×NameKind))(args:List V)(aE loc:List (Str×V)):Prop where
 nd:(loc.map (·.1)).Nodup
 ln:∀p∈loc,names.lookup p.1=ag .local
 go:∀fz x vals kvs,aS W fz x args vals→dW W fz x aE kvs→∃binds,(∀s:ay,W.K.In s.heap→BindsTo s fn ⟨vals,kvs⟩ binds)∧dW W fz x loc binds
abbrev fc:=List V→List (Str×V)→Option (List (Str×V))
inductive b4(W:Wd)(f:aQ)(body:List aG)(scope:Scope)(bnd:fc):Prop
 |mk (cl:List (Str×aQ)) (name qual:Str) (params:Arguments) (dV kV doc pm:ao) (an:Option aQ) (cdv ct oc:ao) (od:Option aQ) (osl:Array (Option ao))
  (at_:W.K.lookup f=ag ⟨oc,od,.func (fnX name qual params body scope cl dV kV doc pm an cdv ct),osl⟩) (code:codeIn W.K cdv qual=ae) (co:scope.isCoroutine=af) (gen:scope.isGenerator=af) (kind:scope.kind=.function) (cell:∀x∈scope.names,x.2≠ .cell) (sr:scope.names.lookup (ai "__debug__")=bg)
  (bind:∀args aE loc,bnd args aE=ag loc→xd W (fnX name qual params body scope cl dV kV doc pm an cdv ct) scope.names args aE loc):b4 W f body scope bnd
def xO(k:Res→Self→au)(o:Out)(s:Self):au:=Out.casesOn o (k (.ok .none) s) fail fail (λv=>k (.ok v) s) (λv=>k (.exc v) s)
def mP(k:Res→Self→au)(o:Out)(st:aq):au:=Ff st.free (xO k o st.self)
def dO(G:aX)(body:List aG)(bnd:fc):Fn:=λargs aE self k=>Ob (bnd args aE) λloc=>aN G 60 body ⟨eB loc,self,af⟩ (mP k)
def AM(W:Wd)(X:bU):Prop:=∀{A₀:eK}{c c' :Act}{m:Str→Option ao}{x:aQ}{st' :aq}{a:Cf}{y:V}{ev:ao}{s' :ay}{Q:Unit→ay→Prop}{E:ao→ay→Prop},
 c'.A₀=A₀→c'.base=c.base→c'.outer=c.env::c.outer→c'.scope.kind=.function→il W c A₀→Below A₀ c.base (c.env::c.outer) c'.h₀→Fr c.h₀ c.L c'.h₀ m→Xv W X x c' a y st' ev s' →
 (∀gy yk,Sub a.fz yk→X.XC x c m st'.self a.rest yk y ev gy→cU a.s gy→Q () gy)→aA W.M (A₀.deeper c'.env) (leaving c'.env ev) Q E s'
section
variable{W:Wd}{X:bU}{G:aX}{f:aQ}{body:List aG}{scope:Scope}{bnd:fc}
noncomputable def Fd(f:Flow):ao:=match f with|.ret v=>v|_=> .none
theorem Mt{env:Env}{A:eK}{D:Nat}(h:kI A (D+1)):kI (A.deeper env) D:=⟨Mu h.1,Mv (k:=3) (by decide) h.2⟩
structure O0(W:Wd)(G:aX)(c:Act)(A:eK)(m:Str→Option ao)(x:aQ)(κ:aW W G):Prop where
 x' :κ.x=x
 A₀:κ.c.A₀=A
 A' :κ.A=A.deeper κ.env
 base:κ.c.base=c.base
 outer:κ.c.outer=c.env::c.outer
 kind:κ.c.scope.kind=.function
 B:Below A c.base (c.env::c.outer) κ.c.h₀
 FG:Fr c.h₀ c.L κ.c.h₀ m
theorem Hi{fz cs:Cells}{x:aQ}{args:List V}{vals:List ao}{aE loc:List (Str×V)}{kvs:List (Str×ao)}{A:eK}{c:Act}{m:Str→Option ao}{s:ay}{P:Result→ay→Prop}(Dd:b4 W f body scope bnd)(ht:G.top=af)(hk:∀y,G.kind y=scope.names.lookup y)(hb:bnd args aE=ag loc)
 (hA:il W c A) (hq:G.quiet=ae→A.handled=bg) (m5:kI A (G.dep+1)) (F:Fr c.h₀ c.L s.heap m) (HH:Hp c s.heap cs) (hv:aS W fz x args vals) (hw:dW W fz x aE kvs)
 (H:∀(κ:aW W G) cV t m',O0 W G c A m x κ→Fr κ.c.h₀ κ.c.L cV m' →Hp κ.c cV cs→AR W fz x [] (λ_=>0) m' (eB loc)→
  aA W.M κ.A (execs body κ.env) (λfl s' =>LeaveK c.h₀ c.L m κ.c.h₀ P (Fd fl) s') (λev s' =>aA W.M κ.A (leaving κ.env ev) (λ_ gy=>P (.error ev) gy) (λe' gy=>P (.error e') gy) s') {s with heap:=cV,toks:=t}):codeAny W.M A (.call (.ref f) ⟨vals,kvs⟩) P s:=by
 obtain⟨cl,name,qual,params,dV,kV,doc,pm,an,cdv,ct,oc,od,osl,at_,code,co,gen,kind,cell,sr,bind⟩:=Dd
 obtain⟨hn,vD,Cz⟩:=bind _ _ _ hb
 obtain⟨binds,hB,vt⟩:=Cz fz x vals kvs hv hw
 have jL:=hA.bX.keeps F.keep
 refine callX_plain (cl:=cl) hA.below F HH.N hA.top.nolimit hA.frames rfl hA.kind (jL _ _ at_) rfl (codeRec_of jL code) (lF (dh _ _) m5.1) (hB s jL) (λp hp=>?_) (λg L' cV FG F' N' B' st _=>?_) cell co gen kind
 ·have:p.1∈loc.map (·.1):=by rw[←vt.names];exact zO hp
  obtain⟨q,hq,e⟩:=List.mem_map.mp this
  rw[←e];exact vD q hq
 ·exact iK (H ⟨x,⟨A,c.base,g,c.env::c.outer,L',qual,scope,f,cdv,cl⟩,_,⟨B',hA.bX.keeps st,hA.top.keeps st,Ez B'.stack,kind⟩,hq,Mt m5,λh=>nt (ht.symm.trans h),hk,sr⟩ cV _ _ ⟨rfl,rfl,rfl,rfl,rfl,kind,B',FG⟩ F' ⟨N',HH.D⟩ (AR.nil λa y hl=>by
   obtain⟨z,e,hz⟩:=Gx hl
   rw[e]
   exact⟨rfl,vt.got hn hz⟩)) (λfl _ h=>by cases fl<;>exact h) λ_ _ h=>h
theorem Hf{args:List V}{aE loc:List (Str×V)}{self:Self}{r' :Res}{st' :aq}(Dd:b4 W f body scope bnd)(ht:G.top=af)(hk:∀y,G.kind y=scope.names.lookup y)(HX:AM W X)(hb:bnd args aE=ag loc)(hf:st'.free=af)
 (H:∀(κ:aW W G) a Q E,Rl W κ ⟨eB loc,self,af⟩ a→(∀d fl y,Le af a d→r' =.ok y→VR W d.fz κ.x y (Fd fl)→Rl W κ st' d→Q fl d.s)→(∀y ev s',r' =.exc y→Xv W X κ.x κ.c a y st' ev s' →E ev s')→aA W.M κ.A (execs body κ.env) Q E a.s):om W X (G.dep+1) G.quiet f args aE self r' st'.self:=by
 intro φ x c A m rest fz s vals kvs hA hq m5 C hv hw
 obtain⟨c2,F,HH,S⟩:=C
 refine Hi Dd ht hk hb hA hq m5 F HH hv hw λκ cV t m' dp F' H' L=>?_
 obtain⟨rfl,e1,e2,e3,e4,e5,B,FG⟩:=dp
 refine H κ ⟨⟨φ,λ_=>0⟩,rest,fz,{s with heap:=cV,toks:=t}⟩ _ _ ⟨_,[],φ,.inr rfl,⟨c2,F',H',S⟩,L⟩ (λd fl y ld hr hy R' =>?_) λy ev s' hr xv=>e2▸HX e1 e3 e4 e5 hA B FG xv λgy yk hf q u=>by rw[hr];exact xf.mk ev yk hf q (cU.trans (.mk cV _) u)
 obtain⟨m',c1,qa,e,⟨uM,F2,H2,S2⟩,L2⟩:=R'
 have H3:=H2.sub (((pK c1 d.rest).append_right d.fz).append_left uM)
 rw[ld.rest]at H3
 refine leaveK_ F2 H3.N λF4 N4=>?_
 rw[hr]
 exact COk.mk _ d.fz ld.fz hy ⟨uM,F4,⟨N4,H3.D⟩,((e.elim (λe=>nt (hf.symm.trans e)) id).trans ld.f:qa=φ)▸S2⟩ (cU.trans (.mk cV _) ld.u)
theorem Ce(Dd:b4 W f body scope bnd)(hG:cb W X G)(ht:G.top=af)(hk:∀y,G.kind y=scope.names.lookup y)(HL:du W X G (cC body))(HX:AM W X)(HC:ip W X):bH W X (G.dep+1) G.quiet f (dO G body bnd):=by
 intro args aE self k r h
 refine a_ h λloc hb h=>?_
 have h:mG W X G ⟨eB loc,self,af⟩ (mP k) r body:=(rP hG HC 60).2 HL h
 rcases h with⟨o,st',H,h⟩|⟨y,st',H,h⟩
 ·refine Gl h λhf h=>?_
  have go:∀r',Gv (k r' st'.self) r→(∀W fz x fl,AH W fz x o fl→∃y,r' =.ok y∧VR W fz x y (Fd fl))→Gn W X (G.dep+1) G.quiet f args aE self k r:=λr' h hr=>⟨r',st'.self,Hf Dd ht hk HX hb hf λκ a Q E R K _=>H κ a () trivial a Q E (Le.refl a) R λd fl ld vB=>by
   obtain⟨y,e,hy⟩:=hr _ _ _ _ vB.1
   exact K d fl y ld e hy vB.2,h⟩
  cases o with
  |next=>exact go _ h λW fz x fl e=>⟨.none,rfl,by rw[(e:fl=.next)];rfl⟩
  |ret y=>exact go _ h λW fz x fl e=>by obtain⟨v,h⟩:=(e:uv _ _);exact⟨y,rfl,h⟩
  |exc y=>exact go _ h λW fz x fl e=>e.elim
  |_=>exact No h
 ·refine Gl h λhf h=>⟨.exc y,st'.self,Hf Dd ht hk HX hb hf λκ a Q E R _ K=>H κ a () trivial a Q E (Le.refl a) R λev s' xv=>K y ev s' rfl xv,h⟩
end
def Passes(W:Wd)(X:bU):Prop:=∀{x:aQ}{c:Act}{A:eK}{st:aq}{π:Pin}{cs rest fz:Cells}{y:V}{ev:ao}{s s' :ay}{E:ao→ay→Prop},il W c A→Xv W X x c ⟨π,cs++rest,fz,s⟩ y st ev s' →
 (∀gy,Xv W X x c ⟨π,rest,fz,s⟩ y st ev gy→E ev gy)→notedBy W.M A c.env (cameBackBy W.M A c.env E) ev s'
def uo(X:bU){W:Wd}{G:aX}(κ:aW W G)(T:Tr Flow)(st:aq)(o:Out)(st' :aq):Prop:=∀a Q E,Rl W κ st a→(∀d f,Le af a d→g8 W G κ o st' d f→Q f d.s)→(∀y ev s',o=.exc y→Xv W X κ.x κ.c a y st' ev s' →E ev s')→T Q E a.s
inductive GD(W:Wd)(X:bU)(G:aX)(T:(κ:aW W G)→Tr Flow)(st:aq)(k:Out→aq→au)(r:R):Prop
 |mk (o:Out) (st' :aq) (H:∀κ,uo X κ (T κ) st o st') (h:Gv (k o st') r):GD W X G T st k r
section
variable{W:Wd}{X:bU}{G:aX}{κ:aW W G}{a:Cf}{st st' :aq}{E:ao→ay→Prop}{n:Nat}{k:Out→aq→au}{rr:R}{s:ay}{o:Out}
theorem Rz.out{T:(κ:aW W G)→Tr Flow}(H:Rz X cD.nil af (λκ _=>T κ) st (g8 W G) k (exc k) rr):GD W X G T st k rr:=by
 rcases H with⟨o,st',H,h⟩|⟨y,st',H,h⟩
 ·exact⟨o,st',λκ a Q E R K _=>H κ a () trivial a Q E (Le.refl a) R K,h⟩
 ·exact⟨.exc y,st',λκ a Q E R _ K=>H κ a () trivial a Q E (Le.refl a) R λev s' =>K y ev s' rfl,h⟩
theorem Rz.outs{J:cD W G}{T:(κ:aW W G)→J.ι→Tr Flow}(H:∀κ a i Q E,J.I κ a i→Rl W κ st a→(∀d f,Le af a d→g8 W G κ o st' d f→Q f d.s)→(∀y ev s',o=.exc y→Xv W X κ.x κ.c a y st' ev s' →E ev s')→T κ i Q E a.s)(h:Gv (k o st') rr):Rz X J af T st (g8 W G) k (exc k) rr:=by
 have two:(∃y,o=.exc y)∨ ∀y,o≠ .exc y:=by cases o<;>first|exact .inl ⟨_,rfl⟩|exact .inr λy e=>nomatch e
 rcases two with⟨y,e⟩|ne
 ·rw[e]at H h
  exact .ex y st' (λκ a i hi c Q E lc R K=>H κ c i Q E (J.up κ a c i lc hi) R (λd f l h=>h.1.elim) λz ev s' e xv=>by cases e;exact K ev s' xv) h
 ·exact .ok o st' (λκ a i hi c Q E lc R K=>H κ c i Q E (J.up κ a c i lc hi) R K λy _ _ e=>absurd e (ne y)) h
inductive uB(κ:aW W G)(go:aq→au)(o:Out)(st' :aq)(d:Cf):Flow→Prop
 |next (dG:aq) (h:Gv (go dG) (o,st')) (R:Rl W κ dG d):uB κ go o st' d .next
 |cont (dG:aq) (h:Gv (go dG) (o,st')) (R:Rl W κ dG d):uB κ go o st' d .cont
 |brk (h:g8 W G κ o st' d .next):uB κ go o st' d .brk
 |ret (v:ao) (h:g8 W G κ o st' d (.ret v)):uB κ go o st' d (.ret v)
theorem NN{kx:Out}{dG:aq}{d:Cf}{f:Flow}{go:aq→au}(hf:g8 W G κ kx dG d f)(hl:Gv (yX kx dG go) (o,st')):uB κ go o st' d f:=by
 obtain⟨h,R'⟩:=hf
 cases kx with
 |next=>rw[(h:f=.next)];exact .next dG hl R'
 |cont=>rw[(h:f=.cont)];exact .cont dG hl R'
 |brk=>rw[(h:f=.brk)];cases So hl;exact .brk ⟨rfl,R'⟩
 |ret y=>obtain⟨v,h⟩:=(h:uv _ _);cases So hl;exact .ret v ⟨.mk v h,R'⟩
 |exc y=>exact h.elim
inductive xn(W:Wd)(X:bU)(G:aX)(test:aw)(body:List aG)(st:aq)(r:R):Prop
 |go (bj:aq) (H:∀κ:aW W G,∀a,uq W κ ae a (aA W.M κ.A (isTrue test κ.env (eval test κ.env))) st ((eA Bool).p κ ae bj)) (H2:∀κ:aW W G,uo X κ (aA W.M κ.A (execs body κ.env)) bj r.1 r.2):xn W X G test body st r
 |stop (bj:aq) (e:r=(.brk,bj)) (H:∀κ:aW W G,∀a,uq W κ ae a (aA W.M κ.A (isTrue test κ.env (eval test κ.env))) st ((eA Bool).p κ af bj)):xn W X G test body st r
 |exc (y:V) (bj:aq) (e:r=(.exc y,bj)) (H:∀κ:aW W G,∀a,AN W X κ a (aA W.M κ.A (isTrue test κ.env (eval test κ.env))) st y bj):xn W X G test body st r
theorem adM(hG:cb W X G)(HC:ip W X){test:aw}{body:List aG}(HL:du W X G (cC body)){r:R}(h:Gv (gE G test body st) r):xn W X G test body st r:=by
 have h:RT W X G .nil (λv st=>leaf (.exc v,st)) r st test _:=(rO hG 60).T h
 rcases h with⟨b,bj,H,h⟩|⟨y,bj,H,h⟩
 ·refine mB h (λe h=>?_) λe h=>?_
  ·rw[e]at H
   have h:mG W X G bj (λo st=>leaf (o,st)) r body:=(rP hG HC 60).2 HL h
   obtain⟨o,st',H2,h⟩:=Rz.out h
   cases So h
   exact .go bj (λκ a=>H κ a () trivial) H2
  ·rw[e]at H
   cases So h
   exact .stop bj rfl λκ a=>H κ a () trivial
 ·exact .exc y bj (So h) λκ a=>H κ a () trivial
inductive WI(κ:aW W G)(a:Cf)(t:aq→au)(o:Out)(st' :aq)(k:Nat):ay→Prop
 |mk (d:Cf) (bj:aq) (l:Le af a d) (R:Rl W κ bj d) (h:Gv (vN t k bj) (o,st')):WI κ a t o st' k d.s
theorem aek(hG:cb W X G)(HC:ip W X)(HP:Passes W X){test:aw}{body:List aG}{pos:Pos}(HL:du W X G (cC body))(h:Gv (vN (gE G test body) n st) (o,st'))(κ:aW W G):uo X κ (aA W.M κ.A (exec (.While test body [] pos) κ.env)) st o st' :=λa Q E R K KX=>by
 refine wpAny_While (codeAny_whileLoop (WI κ a (gE G test body) o st') (λk cu hI=>?_) n ⟨a,st,Le.refl a,R,h⟩)
 obtain⟨d,bj,l,R,h⟩:=hI
 cases k with
 |zero=>exact No h
 |succ k=>
  have bad:∀{y:V}{dG:aq}{b:Cf}{ev:ao}{s' :ay},Gv (yX (.exc y) dG (vN (gE G test body) k)) (o,st')→Le af a b→Xv W X κ.x κ.c b y dG ev s' →notedBy W.M κ.A κ.env (cameBackBy W.M κ.A κ.env E) ev s' :=λh l xv=>by
   cases So h
   exact HP (cs:=[]) κ.hA xv λgy Ge=>KX _ _ _ rfl (Ge.up l)
  refine tr h λkx cu hr h=>?_
  rcases adM hG HC HL hr with⟨dc,H,H2⟩|⟨dc,e,H⟩|⟨y,dc,e,H⟩
  ·refine H κ d d _ _ (Le.refl d) R λiw b pC hb=>?_
   rw[show b=ae from hb.1,if_pos rfl]
   refine H2 κ iw _ _ hb.2 (λsx f pD hf=>?_) λy ev s' e xv=>bad (e▸h) (l.trans pC.weak) xv
   have l' :=l.trans (pC.weak.trans pD)
   rcases NN hf h with⟨dG,h,R⟩|⟨dG,h,R⟩|h|⟨v,h⟩
   ·exact⟨k,Lq _,sx,dG,l',R,h⟩
   ·exact⟨k,Lq _,sx,dG,l',R,h⟩
   ·exact K sx _ l' h
   ·exact K sx _ l' h
  ·refine H κ d d _ _ (Le.refl d) R λiw b pC hb=>?_
   rw[show b=af from hb.1,if_neg jW]
   cases e
   cases So h
   exact wpAny_execs_nil (K iw .next (l.trans pC.weak) ⟨rfl,hb.2⟩)
  ·cases e
   exact H κ d d _ _ (Le.refl d) R λev s' xv=>bad h l xv
theorem NV(hG:cb W X G)(HC:ip W X)(HP:Passes W X){test:aw}{body:List aG}{pos:Pos}(HL:du W X G (cC body)):bY W X G (.While test body [] pos) (Az G test body):=λh=>tr h λo st' hq h=>by
 obtain⟨_,n,hq⟩:=hq
 exact Rz.outs (λκ a i Q E _ R K KX=>aek hG HC HP HL hq κ a Q E R K KX) h
end
noncomputable abbrev Cf.plus(a:Cf)(cs:Cells):Cf:=⟨a.π,cs++a.rest,a.fz,a.s⟩
section
variable{W:Wd}{X:bU}{G:aX}{κ:aW W G}{a:Cf}{st st' :aq}{E:ao→ay→Prop}{n:Nat}{k:Out→aq→au}{rr:R}{s:ay}{o:Out}
structure xo(κ:aW W G)(target:aw)(I:aQ)(l:List V)(gm:Cells)(C:Nat→Cells→Prop):Prop where
 next:∀{i:Nat}{y:V}{a:Cf}{st:aq}{cs:Cells}{Q:ao→ay→Prop}{E:ao→ay→Prop},l[i]?=ag y→C i cs→Sub gm a.fz→Rl W κ st (a.plus cs)→
  (∀v d iT,Le ae a d→C (i+1) iT→VR W d.fz κ.x y v→Rl W κ st (d.plus iT)→Q v d.s)→
  aA W.M κ.A (pyNext (.ref I)) (λr cu=>oe r (λv=>aA W.M κ.A (letOwnedTupleGo target (.ref I) v) (λ_ bV=>Q v bV) E cu) False) E a.s
 done:∀{a:Cf}{st:aq}{cs:Cells}{Q:Option ao→ay→Prop}{E:ao→ay→Prop},C l.length cs→Sub gm a.fz→Rl W κ st (a.plus cs)→(∀d,Le ae a d→Rl W κ st d→Q bg d.s)→aA W.M κ.A (pyNext (.ref I)) Q E a.s
theorem P8{target:aw}{y:V}{v:ao}{Q:Unit→ay→Prop}(h:Bl G target y st=ag st')(hh:κ.A.handled=bg)(R:Rl W κ st a)(hv:VR W a.fz κ.x y v)(K:∀d,Le ae a d→Rl W κ st' d→Q () d.s):aA W.M κ.A (assign target κ.env v) Q E a.s:=by
 refine dn h (λq hq h=>bK h λhk h=>?_) λ_ h=>aD h λq hq h=>aD h λvs m8 h=>?_
 ·rw[rl hq];cases so h;exact wpAny_assign_Name (rR hk hv R K)
 ·rw[NL hq];exact unpack hh h R K (rU m8 hv)
inductive LI(κ:aW W G)(a:Cf)(gm:Cells)(C:Nat→Cells→Prop)(t:V→aq→au)(l:List V)(o:Out)(st' :aq)(n:Nat):ay→Prop
 |mk (d:Cf) (i:Nat) (bj:aq) (cs:Cells) (e:n=l.length -i) (hi:i≤l.length) (h:Gv (dk t (l.drop i) bj) (o,st')) (hc:C i cs) (hf:Sub gm d.fz) (le:Le af a d) (R:Rl W κ bj (d.plus cs)):LI κ a gm C t l o st' n d.s
theorem DS{i n:Nat}(h:i<n):n -(i+1)<n -i:=Nat.sub_lt_sub_left h (Lq i)
theorem DZ(hG:cb W X G)(HC:ip W X)(HP:Passes W X){target:aw}{body:List aG}(HL:du W X G (cC body))(hh:κ.A.handled=bg){I:aQ}{l:List V}{gm:Cells}{C:Nat→Cells→Prop}(T:xo κ target I l gm C){cs:Cells}{Q:Flow→ay→Prop}
 (h:Gv (dk (ft G target body) l st) (o,st')) (h0:C 0 cs) (VC:Sub gm a.fz) (R:Rl W κ st (a.plus cs)) (K:∀d f,Le af a d→g8 W G κ o st' d f→Q f d.s) (KX:∀y ev s',o=.exc y→Xv W X κ.x κ.c a y st' ev s' →E ev s'):
 codeAny W.M κ.A (.forLoop target (.ref I) body [] κ.env) (λr s' =>match r with|.ok fl=>Q fl s' |.error e=>cameBackBy W.M κ.A κ.env E e s') a.s:=by
 refine codeAny_forLoop_any (LI κ a gm C (ft G target body) l o st') (λn cu hI=>?_) l.length ⟨a,0,st,cs,rfl,gx _,h,h0,VC,Le.refl a,R⟩
 obtain⟨d,i,bj,cs,e,hi,h,hc,hf,le,R⟩:=hI
 rw[e]
 rcases Nat.lt_or_eq_of_le hi with dJ|e
 ·rw[Ll dJ]at h
  refine tr h λkx dG hr h=>a_ hr λdc hb hr=>?_
  have hr:mG W X G dc (λo st=>leaf (o,st)) (kx,dG) body:=(rP hG HC 60).2 HL hr
  obtain⟨_,_,H2,hr⟩:=Rz.out hr
  cases So hr
  refine iK (T.next (a:=d) (E:=notedBy W.M κ.A κ.env (cameBackBy W.M κ.A κ.env E)) (Q:=λv bV=>aA W.M κ.A (assign target κ.env v) (λ_ iM=>aA W.M κ.A (execs body κ.env) (λf' wV=>match f' with
   |.next|.cont=>∃m,m<l.length -i∧LI κ a gm C (ft G target body) l o st' m wV
   |.brk=>Q .next wV
   |.ret v=>Q (.ret v) wV) (notedBy W.M κ.A κ.env (cameBackBy W.M κ.A κ.env E)) iM) (notedBy W.M κ.A κ.env (cameBackBy W.M κ.A κ.env E)) bV)
   (lH dJ) hc hf R λv iw uS pC Jf hv AS=>?_) (λr bV q=>?_) λ_ _ q=>q
  ·refine P8 (a:=iw.plus uS) hb hh AS hv λsx pD qg=>H2 κ sx _ _ qg (λRG f vZ vB=>?_) λy ev s' e xv=>?_
   ·obtain⟨π,rest,fz,s⟩:=RG
    have er:rest=uS++iw.rest:=vZ.rest.trans pD.rest
    rw[er]at vB
    have l' :Le af a ⟨π,iw.rest,fz,s⟩:=le.trans (pC.weak.trans ⟨λh=>nt h,vZ.f.trans pD.f,rfl,pD.fz.trans vZ.fz,pD.u.trans vZ.u⟩)
    have sS:Sub gm fz:=hf.trans (pC.fz.trans (pD.fz.trans vZ.fz))
    rcases NN vB h with⟨dG,h,R⟩|⟨dG,h,R⟩|h|⟨v,h⟩
    ·exact⟨_,DS dJ,⟨⟨π,iw.rest,fz,s⟩,i+1,dG,uS,rfl,dJ,h,Jf,sS,l',R⟩⟩
    ·exact⟨_,DS dJ,⟨⟨π,iw.rest,fz,s⟩,i+1,dG,uS,rfl,dJ,h,Jf,sS,l',R⟩⟩
    ·exact K ⟨π,iw.rest,fz,s⟩ _ l' ⟨h.1,h.2.less⟩
    ·exact K ⟨π,iw.rest,fz,s⟩ _ l' ⟨h.1,h.2.less⟩
   ·rw[e]at h
    cases So h
    exact HP (π:=iw.π) (cs:=uS) (rest:=iw.rest) (fz:=iw.fz) (s:=iw.s) κ.hA (xv.up pD) λgy Ge=>KX _ _ _ rfl ((Ge:Xv W X κ.x κ.c iw _ _ _ _).up (le.trans pC.weak))
  ·cases r with
   |none=>exact(q:False).elim
   |some v=>exact q
 ·rw[e,List.drop_length]at h
  cases So h
  rw[e]at hc
  exact T.done (a:=d) hc hf R λd' l R' =>wpAny_execs_nil (K d' .next (le.trans l.weak) ⟨rfl,R'⟩)
end
section
variable{W:Wd}{X:bU}{G:aX}{κ:aW W G}{a:Cf}{st st' :aq}{E:ao→ay→Prop}{n:Nat}{k:Out→aq→au}{rr:R}{s s' :ay}{o:Out}{A:eK}{c:Act}{h h' :cG}{cs:Cells}{I:aQ}{ob zr:km}
set_option backward.match.sparseCases true in
theorem I0{target:aw}{v:ao}{n:String}{vs:Array ao}{Q:Unit→ay→Prop}(ho:s.heap.get? I=ag ob)(hc:ob.cls=.type n)(hd:ob.data=.fields vs)
 (hn:(["enumerate","zip","dict_itemiterator","dict_reverseitemiterator","odict_iterator","itertools.zip_longest","itertools.pairwise"].contains n)=af) (h:Q () s):aA W.M A (letOwnedTupleGo target (.ref I) v) Q E s:=by
 have body:aA W.M A (do
  let(.ref r,.ref a):=(jV I,v)|return
  let o ←load r
  match o.cls,o.data with
  |.type n,.fields vs=>
   if["enumerate","zip","dict_itemiterator","dict_reverseitemiterator","odict_iterator","itertools.zip_longest","itertools.pairwise"].contains n&&vs[0]?==ag (rawInt a)then
    rule "for.unpacks-the-owned-tuple"
    updateField r 0 .none
  |_,_=>pure ()) Q E s:=by
  cases v<;>first
   |exact dv h
   |(
    refine bq (wpAny_load ho ?_)
    rw[hc,hd]
    dsimp only
    rw[hn]
    exact dv h)
 unfold letOwnedTupleGo
 cases target<;>first|exact dv h|exact body
abbrev kG(I:aQ)(h h' :cG):Prop:=∀b o,b≠I→h.get? b=ag o→h'.get? b=ag o
theorem Hp.rest(k:kG I h h')(H:Hp c h ((I,ob)::cs)):Hp c h' cs:=by
 obtain⟨n1,n2⟩:=List.nodup_cons.mp H.D
 exact⟨λp hp=>⟨k _ _ (λe=>n1 (List.mem_map.mpr ⟨p,hp,e⟩)) (H.N p (.tail _ hp)).1,(H.N p (.tail _ hp)).2⟩,n2⟩
theorem Hp.top(k:kG I h h')(e:h'.get? I=ag zr)(H:Hp c h ((I,ob)::cs)):Hp c h' ((I,zr)::cs):=
 ⟨λp hp=>by
  rcases List.mem_cons.mp hp with rfl|hp
  ·exact⟨e,(H.N _ (.head _)).2⟩
  ·exact(H.rest k).N p hp,H.D⟩
theorem Fr.but{m:Str→Option ao}(k:kG I h h')(H:Hp c h ((I,ob)::cs))(F:Fr c.h₀ c.L h m):Fr c.h₀ c.L h' m:=by
 have z:=(H.N _ (.head _)).2
 obtain⟨oL,es,ep,gL,rL⟩:=F.ns
 exact⟨⟨oL,es,ep,k _ _ z.1.symm gL,rL⟩,λb o g=>k b o (λq=>by rw[q,z.2]at g;cases g) (F.keep b o g),F.above⟩
theorem Rel.Nt(k:kG I a.s.heap s'.heap)(e:s'.heap.get? I=ag zr):Rl W κ st (a.own (I,ob) a.s)→Rl W κ st (a.own (I,zr) s')
 |.mk m c1 f e0 (.mk c2 F H S) L=> .mk m c1 f e0 (.mk c2 (Fr.but k (H.perm jA) F) (((H.perm jA).top k e).perm jA.symm) S) L
theorem Rel.BJ(k:kG I a.s.heap s'.heap):Rl W κ st (a.own (I,ob) a.s)→Rl W κ st (a.to s')
 |.mk m c1 f e0 (.mk c2 F H S) L=> .mk m c1 f e0 (.mk c2 (Fr.but k (H.perm jA) F) ((H.perm jA).rest k) S) L
theorem Rel.top:Rl W κ st (a.own (I,ob) s)→s.heap.get? I=ag ob
 |.mk m c1 f e0 (.mk c2 F H S) L=>((H.perm jA).N _ (.head _)).1
inductive AK(mW:Cells)(I:aQ)(St:Nat→cG→Prop)(i:Nat):Cells→Prop
 |mk (o:km) (h:∀h:cG,h.get? I=ag o→(∀p∈mW,h.get? p.1=ag p.2)→St i h):AK mW I St i [(I,o)]
theorem NP{target:aw}{l:List V}{gm mW:Cells}{P:Nat→ao→Prop}{St:Nat→cG→Prop}(Wk:Walks W.prog W.w κ.A I (I::mW.map (·.1)) [I] l.length P St)(qN:∀p∈mW,W.At gm p.1 p.2∧p.1≠I)
 (vw:∀i h,St i h→∃o,h.get? I=ag o) (VI:∀v i s' (Q' :Unit→ay→Prop)(E' :ao→ay→Prop),St i s'.heap→Q' () s' →aA W.M κ.A (letOwnedTupleGo target (.ref I) v) Q' E' s')
 (hP:∀i v y fz,P i v→l[i]?=ag y→Sub gm fz→VR W fz κ.x y v):xo κ target I l gm (AK mW I St)where
 next {i y a st cs Q E} hy hc hf R K:=by
  obtain⟨o,qQ⟩:=hc
  have Jn:∀p∈mW,a.s.heap.get? p.1=ag p.2:=λp hp=>Rel.get (a:=a.plus [(I,o)]) κ.hA.bX ((qN p hp).1.up hf) R
  refine Wk.item i a.s _ E (List.getElem?_eq_some_iff.mp hy).1 (qQ _ R.top Jn) λv h' tk Vl sR hk=>?_
  obtain⟨o',i8⟩:=vw _ _ sR
  have sU:kG I a.s.heap h' :=λb ob hb e=>hk b ob (λq=>hb (List.mem_singleton.mp q)) e
  refine VI v (i+1) {a.s with heap:=h',toks:=tk} _ _ sR (K v (a.to {a.s with heap:=h',toks:=tk}) [(I,o')] (Le.to (.mk _ _)) ⟨o',λo9 h1 h2=>?_⟩ (hP i v y a.fz Vl hy hf) (Rel.Nt (a:=a) (s' :={a.s with heap:=h',toks:=tk}) sU i8 R))
  refine Wk.frame (i+1) h' o9 sR λb hb ob e=>?_
  rcases List.mem_cons.mp hb with rfl|hb
  ·rw[i8]at e;cases e;exact h1
  ·obtain⟨p,hp,rfl⟩:=List.mem_map.mp hb
   rw[sU _ _ (qN p hp).2 (Jn p hp)]at e;cases e
   exact h2 p hp
 done {a st cs Q E} hc hf R K:=by
  obtain⟨o,qQ⟩:=hc
  exact Wk.done a.s _ E (qQ _ R.top λp hp=>Rel.get (a:=a.plus [(I,o)]) κ.hA.bX ((qN p hp).1.up hf) R) λh' tk hk=>K (a.to {a.s with heap:=h',toks:=tk}) (Le.to (.mk _ _)) (Rel.BJ (a:=a) (s' :={a.s with heap:=h',toks:=tk}) (λb ob hb e=>hk b ob (λq=>hb (List.mem_singleton.mp q)) e) R)
abbrev kZ{W:Wd}{G:aX}(target:aw)(body:List aG)(κ:aW W G)(v:ao):Tr Flow:=λQ E s=>aA W.M κ.A (pyIter v) (λit bV=>codeAny W.M κ.A (.forLoop target it body [] κ.env) (λr s' =>match r with|.ok fl=>Q fl s' |.error e=>cameBackBy W.M κ.A κ.env E e s') bV) E s
theorem IG{target iter:aw}{body:List aG}{pos:Pos}{Q:Flow→ay→Prop}(hf:∀v,foldedSetIterable iter κ.env v=pure v)(h:aA W.M κ.A (eval iter κ.env) (λv cu=>kZ target body κ v Q E cu) E s):aA W.M κ.A (exec (.For target iter body [] pos) κ.env) Q E s:=wpAny_For h hf
section
variable(hG:cb W X G)(HC:ip W X)(HP:Passes W X){target:aw}{body:List aG}(HL:du W X G (cC body))(hh:κ.A.handled=bg){l:List V}{Q:Flow→ay→Prop}(hit:Gv (dk (ft G target body) l st) (o,st'))(R:Rl W κ st a)(K:∀d f,Le af a d→g8 W G κ o st' d f→Q f d.s)(KX:∀y ev s',o=.exc y→Xv W X κ.x κ.c a y st' ev s' →E ev s')
include hG HC HP HL hh hit R K KX
theorem IH{d:aQ}{vs:Array ao}{ob:km}{it:km}{St:Nat→cG→Prop}(hA:W.At a.fz d ob)(hv:aS W a.fz κ.x l vs.toList)(hi:it.isFreed=af)(Wk:Walks W.prog W.w κ.A a.s.heap.objs.size [a.s.heap.objs.size,d] [a.s.heap.objs.size] vs.size (λi v=>vs[i]?=ag v) St)
 (I_:∀i h,St i h→∃o n vs,h.get? a.s.heap.objs.size=ag o∧o.cls=.type n∧o.data=.fields vs∧(["enumerate","zip","dict_itemiterator","dict_reverseitemiterator","odict_iterator","itertools.zip_longest","itertools.pairwise"].contains n)=af)
 (h0:∀h:cG,h.get? a.s.heap.objs.size=ag it→h.get? d=ag ob→St 0 h):codeAny W.M κ.A (.forLoop target (.ref a.s.heap.objs.size) body [] κ.env) (λr s' =>match r with|.ok fl=>Q fl s' |.error e=>cameBackBy W.M κ.A κ.env E e s') (pushS a.s it):=by
 have dJ:d<a.s.heap.objs.size:=ru (R.get κ.hA.bX hA)
 rw[hv.size]at Wk
 have T:xo κ target a.s.heap.objs.size l a.fz (AK [(d,ob)] a.s.heap.objs.size St):=NP (mW:=[(d,ob)]) Wk (λp hp=>by cases List.mem_singleton.mp hp;exact⟨hA,nK dJ⟩) (λi h hs=>let⟨o,_,_,e,_⟩:=I_ i h hs;⟨o,e⟩)
  (λv i s' Q' E' hs hq=>let⟨_,_,_,e,hc,hd,hn⟩:=I_ i _ hs;I0 e hc hd hn hq)
  (λi v y fz hp hy hf=>by
   obtain⟨u,e,hu⟩:=hv.get hy
   rw[zM,hp]at e
   cases e;exact hu.up hf)
 exact DZ (a:=a.to (pushS a.s it)) hG HC HP HL hh T hit ⟨it,λh e1 e2=>h0 h e1 (e2 _ (.head _))⟩ (Sub.refl _) (R.tO hi) (λd f l=>K d f ((Le.to (.mk _ _)).trans l)) λy ev s' e xv=>KX y ev s' e (xv.up (Le.to (k:=ae) (.mk _ _)))
theorem T7:∀{v:ao},cf W a.fz cM (aS W a.fz κ.x l) v→kZ target body κ v Q E a.s
 |_,.mk d vs n hA hv=>by
  have hl:=jR (R.fh κ.hA _ _ hA)
  exact wpAny_pyIter_list hl (IH hG HC HP HL hh hit R K KX hA hv rfl (Walks.list hh a.s.heap.objs.size d (nK (ru (R.fh κ.hA _ _ hA))) vs) (λi h hs=>let⟨⟨o,ho,hc,hd⟩,_⟩:=hs;⟨o,_,_,ho,hc,hd,by decide⟩) λh e1 e2=>⟨⟨_,e1,rfl,rfl⟩,⟨_,e2,rfl,_,rfl⟩⟩)
theorem T9:∀{v:ao},cf W a.fz fJ (aS W a.fz κ.x l) v→kZ target body κ v Q E a.s
 |_,.mk d vs n hA hv=>by
  have hl:a.s.heap.IsTuple d vs:=rT (R.fh κ.hA _ _ hA)
  exact wpAny_pyIter_tuple hl (IH hG HC HP HL hh hit R K KX hA hv rfl (Walks.tuple hh a.s.heap.objs.size d (nK (ru (R.fh κ.hA _ _ hA))) vs) (λi h hs=>let⟨⟨o,ho,hc,hd⟩,_⟩:=hs;⟨o,_,_,ho,hc,hd,by decide⟩) λh e1 e2=>⟨⟨_,e1,rfl,rfl⟩,⟨_,e2,rfl,_,rfl⟩⟩)
end
theorem Cp(hG:cb W X G)(HC:ip W X)(HP:Passes W X)(hq:G.quiet=ae){target iter:aw}{body:List aG}{pos:Pos}(HL:du W X G (cC body)):bY W X G (.For target iter body [] pos) (forL G target iter body):=λh=>bF h λhi h=>
 Rz.as (λκ i Q E s=>IG (Em hi)) (Rz.bind (F:=λκ i v=>kZ target body κ v) ((rO hG 60).E h) λy bj h=>a_ h λl hl h=>tr h λkx dc sV h=>Rz.outs (o:=kx) (st' :=dc) (λκ a i Q E hi R K KX=>by
  rcases J4 hl with hl|hl
  ·exact T7 hG HC HP HL (κ.quiet hq) sV R K KX (jS hl hi.2)
  ·exact T9 hG HC HP HL (κ.quiet hq) sV R K KX (rU hl hi.2)) h)
end
theorem MX{i:Int}(h:0≤i):zL 0 i 1=i:=by
 unfold zL
 rw[if_pos (by decide)]
 split
 ·rw[Int.ediv_one];omega
 ·omega
theorem ab9{i:Int}(h:0≤i)(h2:i<1000):LJ 0 i 1=ae:=by
 unfold LJ
 rw[MX h]
 unfold Builtin.Range.rangeFitsLong
 have a1:(-2^63:Int)≤i:=by omega
 have a2:i<(2^63:Int):=by omega
 have a3:(-2^63:Int)≤i+(1 -1):=by omega
 have a4:i+(1 -1)<(2^63:Int):=by omega
 simp only[EI,Int.sub_self,aeT]
 simp
 omega
theorem abf{n i:Nat}{y:V}(h:(jb n)[i]?=ag y):y=.int (i:Nat):=by
 unfold jb at h
 rw[zw]at h
 cases q:(EL n)[i]? with
 |none=>rw[q]at h;cases h
 |some j=>
  rw[q]at h;cases h
  obtain⟨hl,e⟩:=List.getElem?_eq_some_iff.mp q
  rw[List.getElem_range]at e
  rw[e]
section
variable{W:Wd}{X:bU}{G:aX}{κ:aW W G}{a:Cf}{st st' :aq}{E:ao→ay→Prop}{n:Nat}{k:Out→aq→au}{rr:R}{o:Out}
section
variable(hG:cb W X G)(HC:ip W X)(HP:Passes W X){target:aw}{body:List aG}(HL:du W X G (cC body))(hh:κ.A.handled=bg){i:Int}(b1:0≤i)(b2:i<1000){Q:Flow→ay→Prop}(hit:Gv (dk (ft G target body) (jb i.toNat) st) (o,st'))(R:Rl W κ st a)(K:∀d f,Le af a d→g8 W G κ o st' d f→Q f d.s)(KX:∀y ev s',o=.exc y→Xv W X κ.x κ.c a y st' ev s' →E ev s')
include hG HC HP HL hh b1 b2 hit R K KX
theorem T8:∀{v:ao},bL i v→aA W.M κ.A (call (.type "range") [v]) (λv s=>kZ target body κ v Q E s) E a.s
 |_,.mk t=>by
  refine call_range_1 ?_
  have qg:=(R.push (o:={cls:=.type "range",data:=.fields #[.int 0 a.s.toks,.int i t,.int 1 (a.s.toks+1)]}) rfl).tok (a.s.toks+1+1)
  refine wpAny_pyIter_range (s:={a.s with heap:=a.s.heap.push {cls:=.type "range",data:=.fields #[.int 0 a.s.toks,.int i t,.int 1 (a.s.toks+1)]},toks:=a.s.toks+1+1}) (kr _ rfl) (ab9 b1 b2) ?_
  have ux:=qg.tO (o:={cls:=.type "range_iterator",data:=.fields #[rawInt 0,rawInt (zL 0 i 1),rawInt 1]}) rfl
  have gP:(jb i.toNat).length=i.toNat:=by unfold jb;rw[e_,List.length_range]
  have Wk:=Walks.range (prog:=W.prog) (w:=W.w) hh (a.s.heap.push {cls:=.type "range",data:=.fields #[.int 0 a.s.toks,.int i t,.int 1 (a.s.toks+1)]}).objs.size 0 1 (jb i.toNat).length
  have T:=NP (κ:=κ) (target:=target) (l:=jb i.toNat) (gm:=[]) (mW:=[]) Wk (λp hp=>nomatch hp) (λi h hs=>⟨_,hs⟩) (λv i s' Q' E' hs hq=>I0 hs rfl rfl (by decide) hq)
   (λi v y fz hp hy hf=>by
    obtain⟨t,rfl⟩:=hp
    rw[abf hy]
    have e:(0:Int)+(i:Nat)*1=(i:Nat):=by omega
    rw[e];exact bL.mk t)
  refine DZ (a:=(a.fr (a.s.heap.objs.size,{cls:=.type "range",data:=.fields #[.int 0 a.s.toks,.int i t,.int 1 (a.s.toks+1)]}) {a.s with heap:=(a.s.heap.push {cls:=.type "range",data:=.fields #[.int 0 a.s.toks,.int i t,.int 1 (a.s.toks+1)]}).push {cls:=.type "range_iterator",data:=.fields #[rawInt 0,rawInt (zL 0 i 1),rawInt 1]},toks:=a.s.toks+1+1}))
   hG HC HP HL hh T hit ⟨_,λh e1 e2=>?_⟩ (Sub.nil _) ux (λd f l=>K d f ((Le.fr (.mk _ _)).trans l)) λy ev s' e xv=>KX y ev s' e (xv.up (Le.fr (k:=ae) (.mk _ _)))
  show IsRangeIter h _ _ _ _
  unfold IsRangeIter
  rw[show(0:Int)+((0:Nat):Int)*1=0 from rfl,show(((jb i.toNat).length:Nat):Int) -((0:Nat):Int)=zL 0 i 1 by rw[gP,MX b1];omega]
  exact e1
theorem range_one{y:V}(hy:y.i?=ag i):∀{vs:List ao},aS W a.fz κ.x [y] vs→aA W.M κ.A (call (.type "range") vs) (λv s=>kZ target body κ v Q E s) E a.s
 |_,.mk _ _ hu rfl=>T8 hG HC HP HL hh b1 b2 hit R K KX (dF hy hu)
end
theorem WW{b:Bi}(h:JY b=ae):b=.range:=by cases b<;>first|rfl|exact nt h
theorem Kk(hG:cb W X G){target arg:aw}{id:Str}{np cp:Pos}{body:List aG}{pos:Pos}{b:Bi}{p:Bi→Bool}{kk:List V→aq→au}(hp:∀{b'},p b' =ae→b' =b)(h:Gv (Tt (gU [arg] []) (bc G 60 (.Name id np) st (λv st=>Ob v.qm λb' =>Tt (p b') (dS G 60 [arg] st kk (exc k))) (exc k))) rr)
 (leaf:∀{v ys st'},Gv (kk ys st') rr→Rz X ((cD.nil.and vA v).and sA ys) af (λκ i(Q:Flow→ay→Prop) E s=>W.K.In s.heap∧aA W.M κ.A (call b.val i.2) (λv s=>kZ target body κ v Q E s) E s) st' (g8 W G) k (exc k) rr):RS W X G st k rr (.For target (.Call (.Name id np) [arg] [] cp) body [] pos):=bF h λha h=>by
 obtain⟨hu,hw,_⟩:=tK ha
 have H:=rO (W:=W) (X:=X) hG 60
 exact Rz.as (λκ i Q E s h=>IG (λ_=>rfl) (wpAny_Call_Name_kw h)) (Rz.bind (F:=λκ i f(Q:Flow→ay→Prop) E s=>cT cp [arg] [] κ f (λv s=>kZ target body κ v Q E s) E s) (H.E h) λv bj h=>a_ h λb' hb h=>bF h λhr h=>
  Rz.pre (J:=cD.nil.and vA v) (T:=λκ i(Q:Flow→ay→Prop) E s=>aA W.M κ.A (spliced (backTo cp (starEach [arg] κ.env))) (λvs bV=>W.K.In bV.heap∧aA W.M κ.A (call b.val vs) (λv s=>kZ target body κ v Q E s) E bV) E s)
   (λκ a i Q E hi R K=>by
    have e:i.2=b.val:=by have:=hi.2;rw[Bk hb,hp hr]at this;exact this
    rw[e]
    exact callWith_of (P:=W.K.In) (by rw[(rQ hu).2,(ph hw).2];rfl) (DG b) (sC hu hw (iK (K a (Le.refl a) R) (λvs bV h=>kwAll_nil h) λ_ _ e=>e)))
   (Rz.bind (F:=λκ i vs(Q:Flow→ay→Prop) E s=>W.K.In s.heap∧aA W.M κ.A (call b.val vs) (λv s=>kZ target body κ v Q E s) E s) (H.A hu h cp) λys dc h=>leaf h))
theorem T4(hG:cb W X G)(HC:ip W X)(HP:Passes W X)(hq:G.quiet=ae){target arg:aw}{id:Str}{np cp:Pos}{body:List aG}{pos:Pos}(HL:du W X G (cC body)):bY W X G (.For target (.Call (.Name id np) [arg] [] cp) body [] pos) (forR G target id np arg body):=λh=>Kk hG WW h λh=>
 a_ h λy hy h=>a_ h λi qO h=>bF h λhb h=>tr h λkx dc sV h=>Rz.outs (o:=kx) (st' :=dc) (λκ a j Q E hi R K KX=>⟨R.bX κ.hA.bX,range_one hG HC HP HL (κ.quiet hq) (pn (aF hb).1) (jT (aF hb).2) sV R K KX qO (dN hy▸hi.2)⟩) h
end
section
variable{W:Wd}{X:bU}{G:aX}{κ:aW W G}{a:Cf}{st st' :aq}{E:ao→ay→Prop}{n:Nat}{k:Out→aq→au}{rr:R}{s s' :ay}{o:Out}{c:Act}{h h' :cG}{cs:Cells}{I J:aQ}{o1 o2 o3 o4:km}{p q:aQ×km}
theorem Hp.FH{m:Str→Option ao}(F:Fr c.h₀ c.L h m)(k:∀b ob,b≠I→b≠J→h.get? b=ag ob→h'.get? b=ag ob)(e1:h'.get? I=ag o3)(e2:h'.get? J=ag o4)(n:h.get? p.1=bg)(e3:h'.get? p.1=ag p.2)(H:Hp c h ((I,o1)::(J,o2)::cs)):Hp c h' (p::(I,o3)::(J,o4)::cs):=by
 obtain⟨n1,n2⟩:=List.nodup_cons.mp H.D
 obtain⟨n3,n4⟩:=List.nodup_cons.mp n2
 refine⟨λq hq=>?_,List.nodup_cons.mpr ⟨λhm=>?_,H.D⟩⟩
 ·rcases List.mem_cons.mp hq with rfl|hq
  ·refine⟨e3,λq=>?_,?_⟩
   ·obtain⟨oL,_,_,hL,_⟩:=F.ns
    rw[q,hL]at n;cases n
   ·cases q:c.h₀.get? q.1 with
    |none=>rfl
    |some o=>rw[F.keep _ _ q]at n;cases n
  ·rcases List.mem_cons.mp hq with rfl|hq
   ·exact⟨e1,(H.N _ (.head _)).2⟩
   ·rcases List.mem_cons.mp hq with rfl|hq
    ·exact⟨e2,(H.N _ (.tail _ (.head _))).2⟩
    ·have z:=H.N q (.tail _ (.tail _ hq))
     exact⟨k _ _ (λe=>n1 (.tail _ (List.mem_map.mpr ⟨q,hq,e⟩))) (λe=>n3 (List.mem_map.mpr ⟨q,hq,e⟩)) z.1,z.2⟩
 ·have hm:p.1∈((I,o1)::(J,o2)::cs).map (·.1):=hm
  obtain⟨q,hq,e⟩:=List.mem_map.mp hm
  have z:=(H.N q hq).1
  rw[e,n]at z;cases z
theorem Fr.QG{m:Str→Option ao}(k:∀b ob,b≠I→b≠J→h.get? b=ag ob→h'.get? b=ag ob)(H:Hp c h ((I,o1)::(J,o2)::cs))(F:Fr c.h₀ c.L h m):Fr c.h₀ c.L h' m:=by
 have z1:=(H.N _ (.head _)).2
 have z2:=(H.N _ (.tail _ (.head _))).2
 obtain⟨oL,es,ep,gL,rL⟩:=F.ns
 exact⟨⟨oL,es,ep,k _ _ z1.1.symm z2.1.symm gL,rL⟩,λb o g=>k b o (λq=>by rw[q,z1.2]at g;cases g) (λq=>by rw[q,z2.2]at g;cases g) (F.keep b o g),F.above⟩
theorem tM{c1 c2 r z:Cells}{p q:aQ×km}:(c2++((c1++p::q::r)++z)).Perm (p::q::(c2++((c1++r)++z))):=jA.trans (jA.cons p)
theorem Rel.FH(k:∀b ob,b≠I→b≠J→a.s.heap.get? b=ag ob→s'.heap.get? b=ag ob)(e1:s'.heap.get? I=ag o3)(e2:s'.heap.get? J=ag o4)(n:a.s.heap.get? p.1=bg)(e3:s'.heap.get? p.1=ag p.2):Rl W κ st (a.plus [(I,o1),(J,o2)])→Rl W κ st ((a.fr p s').plus [(I,o3),(J,o4)])
 |.mk m c1 f e0 (.mk c2 F H S) L=> .mk m c1 f e0 (.mk c2 (Fr.QG k (H.perm tM) F) ((Hp.FH F k e1 e2 n e3 (H.perm tM)).perm ((tM.symm.cons p).trans tL.symm)) (S.up (Sub.cons _ _))) (L.up (Sub.cons _ _) (Sub.refl _))
theorem Rel.YM(k:∀b ob,a.s.heap.get? b=ag ob→s'.heap.get? b=ag ob)(n1:a.s.heap.get? p.1=bg)(n2:a.s.heap.get? q.1=bg)(ne:p.1≠q.1)(e1:s'.heap.get? p.1=ag p.2)(e2:s'.heap.get? q.1=ag q.2):Rl W κ st a→Rl W κ st ((a.to s').plus [p,q])
 |.mk m c1 f e0 (.mk c2 F H S) L=>by
  have H1:=H.cons F n2 (λb o _=>k b o) e2
  have H2:=H.cons F n1 (λb o _=>k b o) e1
  refine .mk m c1 f e0 (.mk c2 (F.keptAll k) (Hp.perm tM.symm ⟨λt ht=>?_,List.nodup_cons.mpr ⟨λhm=>?_,H1.D⟩⟩) S) L
  ·rcases List.mem_cons.mp ht with rfl|ht
   ·exact H2.N _ (.head _)
   ·exact H1.N _ ht
  ·rcases List.mem_cons.mp hm with e|hm
   ·exact ne e
   ·exact(List.nodup_cons.mp H2.D).1 hm
theorem Rel.two:Rl W κ st (a.plus [(I,o1),(J,o2)])→a.s.heap.get? I=ag o1∧a.s.heap.get? J=ag o2
 |.mk m c1 f e0 (.mk c2 F H S) L=>⟨((H.perm tM).N _ (.head _)).1,((H.perm tM).N _ (.tail _ (.head _))).1⟩
noncomputable abbrev xP(it:aQ)(i:Nat)(old:ao):km:={cls:=.type "enumerate",dict:=bg,data:=.fields #[.none,.bool af,.ref it,rawInt (i:Int),.none,old],slots:=#[]}
theorem Sd{t:List Nat}:∀{k i:Nat}{y:V},(lR k t)[i]?=ag y→∃ch,t[i]?=ag ch∧y=.tup [.int ((k+i:Nat):Int),.str [ch]]:=by
 induction t with
 |nil=>intro k i y h;cases h
 |cons ch t ih=>
  intro k i y h
  cases i with
  |zero=>cases h;exact⟨ch,rfl,rfl⟩
  |succ i=>
   obtain⟨Hm,e,e2⟩:=ih (h:(lR (k+1) t)[i]?=ag y)
   exact⟨Hm,e,by rw[e2,jz,eL]⟩
theorem Se{t:List Nat}:∀{k:Nat},(lR k t).length=t.length:=by
 induction t with
 |nil=>intro k;rfl
 |cons ch t ih=>intro k;exact congrArg Z5 ih
inductive Gk(e it:aQ)(ty:String)(txt:List Nat)(tk:Tok)(i:Nat):Cells→Prop
 |mk (old:ao) (oi:km) (hc:oi.cls=.type ty) (hd:oi.data=.fields #[.str ⟨txt.toArray⟩ tk,.int i 0]):Gk e it ty txt tk i [(e,xP it i old),(it,oi)]
theorem adN{elts:List aw}{kd:Nat}{tp:Pos}{e it:aQ}{txt:List Nat}{tk:Tok}{ty:String}{gm:Cells}(fS:e≠it)
 (D:Draws W.prog W.w κ.A.in1 it [it] txt.length (λi v=>∃c u,txt[i]?=ag c∧v=.str ⟨#[c]⟩ u) (λi h=>h.IsStrIter it ty ⟨txt.toArray⟩ tk i)):xo κ (.Tuple elts kd tp) e (lR 0 txt) gm (Gk e it ty txt tk)where
 next {i y a st cs Q E} hy hC hf R K:=by
  obtain⟨old,oi,hc,hd⟩:=hC
  obtain⟨ch,Jd,rfl⟩:=Sd hy
  obtain⟨m1,m2⟩:=R.two
  refine wpAny_pyNext_enum_itemD D m1 ⟨oi,m2,hc,hd⟩ (List.getElem?_eq_some_iff.mp Jd).1 fS (by simpa using fS) λv h' t' hP ho vG hT hz hk=>?_
  obtain⟨Hm,u,Je,rfl⟩:=hP
  rw[Jd]at Je;cases Je
  refine wpAny_letOwnedTupleGo_enum ho λo9 Vy CZ=>?_
  obtain⟨wc,CX,Vq,qK⟩:=vG
  have Cw:=tP a.s.heap
  refine K (.ref a.s.heap.objs.size) (a.fr (a.s.heap.objs.size,fJ #[.int (i:Int) t',.str ⟨#[ch]⟩ u] 0) _) [(e,xP it (i+1) (.str ⟨#[ch]⟩ u)),(it,wc)] (Le.fr (.mk o9 _)) ⟨_,wc,Vq,qK⟩ ?_ (R.FH (λb ob n1 n2 g=>(CZ.2 b n1).trans (hk b ob n1 n2 g)) Vy ((CZ.2 it fS.symm).trans CX) Cw ((CZ.2 _ λq=>by rw[show a.s.heap.objs.size=e from q,m1]at Cw;cases Cw).trans hT))
  rw[fY]
  exact cf.mk _ #[.int (i:Int) t',.str ⟨#[ch]⟩ u] 0 (.here _ _) (dH.mk (p:=bL _) _ _ (.mk t') (dH.mk (p:=cj _) _ _ (cj.mk (bw rfl) u) rfl))
 done {a st cs Q E} hC hf R K:=by
  rw[Se]at hC
  obtain⟨old,oi,hc,hd⟩:=hC
  obtain⟨m1,m2⟩:=R.two
  refine wpAny_pyNext_enum_endD D m1 ⟨oi,m2,hc,hd⟩ λh' he=>?_
  exact K (a.to {a.s with heap:=h' }) (Le.to (.mk _ _)) (Rel.BJ (a:=a) (I:=it) (ob:=oi) (s' :={a.s with heap:=h' }) (λb ob hb g=>he b ob hb g) (Rel.less (cs:=[(e,xP it txt.length old)]) (r:=(it,oi)::a.rest) R))
section
variable(hG:cb W X G)(HC:ip W X)(HP:Passes W X){elts:List aw}{kd:Nat}{tp:Pos}{body:List aG}(HL:du W X G (cC body))(hh:κ.A.handled=bg){txt:List Nat}{Q:Flow→ay→Prop}(hit:Gv (dk (ft G (.Tuple elts kd tp) body) (lR 0 txt) st) (o,st'))(R:Rl W κ st a)(K:∀d f,Le af a d→g8 W G κ o st' d f→Q f d.s)(KX:∀y ev s',o=.exc y→Xv W X κ.x κ.c a y st' ev s' →E ev s')
include hG HC HP HL hh hit R K KX
theorem T5{y:V}(hy:y.s?=ag txt):∀{vs:List ao},aS W a.fz κ.x [y] vs→aA W.M κ.A (call (.type "enumerate") vs) (λv s=>kZ (.Tuple elts kd tp) body κ v Q E s) E a.s
 |_,.mk v _ hu rfl=>by
  obtain⟨hlen,t⟩:=dQ hy hu
  refine call_enumerate_str λh' he qO hz VN=>wpAny_pyIter_enum he ?_
  obtain⟨oi,VX,hc,hd⟩:=qO
  have D:Draws W.prog W.w κ.A.in1 a.s.heap.objs.size [a.s.heap.objs.size] txt.length (λi v=>∃c u,txt[i]?=ag c∧v=.str ⟨#[c]⟩ u) (λi h=>h.IsStrIter a.s.heap.objs.size (strIterType ⟨txt.toArray⟩) ⟨txt.toArray⟩ t i):=by
   unfold strIterType
   split
   ·have:=Draws.strAscii (prog:=W.prog) (w:=W.w) (A:=κ.A.in1) hh a.s.heap.objs.size ⟨txt.toArray⟩ t
    simpa using this
   ·have:=Draws.strWide (prog:=W.prog) (w:=W.w) (A:=κ.A.in1) hh a.s.heap.objs.size ⟨txt.toArray⟩ t
    simpa using this
  exact DZ (a:=a.to {a.s with heap:=h',toks:=_}) hG HC HP HL hh (adN (elts:=elts) (kd:=kd) (tp:=tp) (gm:=[]) (Nat.succ_ne_self _) D) hit ⟨_,oi,hc,hd⟩ (Sub.nil _)
   (Rel.YM (p:=(a.s.heap.objs.size+1,xP a.s.heap.objs.size 0 .none)) (q:=(a.s.heap.objs.size,oi)) (s' :={a.s with heap:=h',toks:=_}) VN (Heap.get?_none_of_le (pQ _)) (tP _) (Nat.succ_ne_self _) he VX R) (λd f l=>K d f ((Le.to (.mk _ _)).trans l)) λy ev s' e xv=>KX y ev s' e (xv.up (Le.to (k:=ae) (.mk _ _)))
end
theorem WU{b:Bi}(h:JS b=ae):b=.enum:=by cases b<;>first|rfl|exact nt h
theorem T2(hG:cb W X G)(HC:ip W X)(HP:Passes W X)(hq:G.quiet=ae){elts:List aw}{kd:Nat}{tp:Pos}{arg:aw}{id:Str}{np cp:Pos}{body:List aG}{pos:Pos}(HL:du W X G (cC body)):bY W X G (.For (.Tuple elts kd tp) (.Call (.Name id np) [arg] [] cp) body [] pos) (IE G (.Tuple elts kd tp) id np arg body):=λh=>Kk hG WU h λh=>
 a_ h λy hy h=>a_ h λtxt ht h=>tr h λkx dc sV h=>Rz.outs (o:=kx) (st' :=dc) (λκ a j Q E hi R K KX=>⟨R.bX κ.hA.bX,T5 hG HC HP HL (κ.quiet hq) sV R K KX ht (dN hy▸hi.2)⟩) h
end
section
variable{W:Wd}{X:bU}{G:aX}{κ:aW W G}{a:Cf}{st st' :aq}{E:ao→ay→Prop}{n:Nat}{k:Out→aq→au}{rr:R}{s s' :ay}{o:Out}
abbrev Gw(κ:aW W G)(s s' :ay):Prop:=kG κ.c.L s.heap s'.heap
theorem Ni{id:Str}{y:V}{v:ao}{Q:Unit→ay→Prop}(hk:isLocal (G.kind id)=ae)(hv:VR W a.fz κ.x y v)(R:Rl W κ st a)(K:∀s',cU a.s s' →Gw κ a.s s' →Rl W κ (d7 id y st) (a.to s')→Q () s'):aA W.M κ.A (storeName κ.env id v) Q E a.s:=by
 obtain⟨m,c1,f,e,⟨c2,F,H,S⟩,L⟩:=R
 exact wpAny_storeName_local (ju κ hk) F.ns (λh' hn hs=>K {a.s with heap:=h',toks:=_} (.mk _ _) (λb o hb e=>hs.extBut b o hb e) ⟨_,c1,f,e,⟨c2,F.set hn hs,⟨H.N.set hs,H.D⟩,S⟩,L.put hv (if_pos rfl) λb hb=>if_neg hb⟩) (El κ)
abbrev Pj(W:Wd)(G:aX)(n:Nat):Prop:=∀{e:aw}{st:aq}{b:Bool},qT G n e st=ag b→∀(κ:aW W G){a:Cf}{Q:Bool→ay→Prop}{E:ao→ay→Prop},Rl W κ st a→(∀t,Q b {a.s with toks:=t})→aA W.M κ.A (isTrue e κ.env (eval e κ.env)) Q E a.s
theorem aa6(hG:cb W X G)(n:Nat):Pj W G n:=by
 induction n with
 |zero=>intro e st b h;exact no h
 |succ n ih=>
  intro e st b h κ a Q E R K
  cases e with
  |BoolOp op es pos=>
   refine aD h λq hq h=>?_
   cases op with
   |And=>exact no h
   |Or=>
    rw[oa hq]
    refine aD (h:(ob (qT G n q.1 st) λb=>br b (ag ae) (qT G n q.2 st))=ag b) λc hc h=>wpAny_isTrue_BoolOp (wpAny_allTrue_Or_cons (ih hc κ R λt=>?_))
    cases c with
    |true=>rw[if_pos rfl];rw[so h]at K;exact K t
    |false=>
     rw[if_neg jW]
     refine wpAny_allTrue_Or_cons (ih (h:qT G n q.2 st=ag b) κ (R.tok t) λt' =>?_)
     cases b with
     |true=>rw[if_pos rfl];exact K t'
     |false=>rw[if_neg jW];exact wpAny_allTrue_Or_nil (K t')
  |Compare l ops rs pos=>
   refine aD h λq hq h=>aD h λva ha h=>aD h λvb hb h=>aD h λc hc h=>?_
   obtain⟨e1,e2,e3⟩:=xJ hq
   rw[e1,e2]
   exact wpAny_isTrue_Compare1 (rD hG _ ha κ R λua t V9=>rD hG _ hb κ (R.tok t) λub t' V' =>sm (s:={a.s with toks:=t' }) (R.fh κ.hA) (mu κ.room) hc V9 V' λu wW hu=>by
    rw[j9 h]at hu
    rw[(hu:u=_)]
    exact wpAny_truthy_bool (K wW)) e3
  |_=>exact no h
abbrev GH(W:Wd)(G:aX)(f:(κ:aW W G)→Tr Flow)(st st' :aq):Prop:=∀(κ:aW W G){a:Cf}{Q:Flow→ay→Prop}{E:ao→ay→Prop},Rl W κ st a→(∀s',cU a.s s' →Gw κ a.s s' →Rl W κ st' (a.to s')→Q .next s')→f κ Q E a.s
theorem kG.trans{I:aQ}{a b c:cG}(h:kG I a b)(k:kG I b c):kG I a c:=λx o n e=>k x o n (h x o n e)
theorem aa5(hG:cb W X G)(n:Nat):(∀{s st st'},qS G n s st=ag st' →GH W G (λκ=>aA W.M κ.A (exec s κ.env)) st st')∧(∀{s st st'},qS.z7 G n s st=ag st' →GH W G (λκ=>aA W.M κ.A (execs s κ.env)) st st'):=by
 induction n with
 |zero=>exact⟨λh=>no h,λh=>no h⟩
 |succ n ih=>
  refine⟨λ{s st st'} h κ a Q E R K=>?_,λ{s st st'} h κ a Q E R K=>?_⟩
  ·cases s with
   |Assign ts e pos=>
    refine aD h λt ht h=>aD h λid gn h=>bK h λhk h=>aD h λv hv h=>?_
    obtain⟨np,e1⟩:=ly gn
    rw[dN ht,e1]
    rw[so h]at K
    exact wpAny_Assign_Name (rD hG _ hv κ R λu t hu=>Ni (a:=a.to {a.s with toks:=t}) (aF hk).1 hu (R.tok t) λs' u' k R' =>K s' (cU.trans (.mk _ _) u') k R') (lB (aF hk).2)
   |If t b o pos=>
    refine bK h λho h=>aD h λc hc h=>wpAny_If (aa6 hG _ hc κ R λt' =>?_)
    rw[c_ ho]
    refine gM h (λe h=>?_) λe h=>?_
    ·rw[e,if_pos rfl];exact ih.2 h κ (R.tok t') λs' u' k R' =>K s' (cU.trans (.mk _ _) u') k R'
    ·rw[e,if_neg jW];exact wpAny_execs_nil (K _ (.mk _ _) (λ_ _ _ e=>e) (by rw[so h];exact R.tok t'))
   |_=>exact no h
  ·cases s with
   |nil=>exact wpAny_execs_nil (K a.s (cU.refl _) (λ_ _ _ e=>e) (by rw[so (h:ag st=ag st')];exact R))
   |cons s ss=>exact aD h λbj h1 h=>wpAny_execs_cons (ih.1 h1 κ R λcu p9 k₁ sd=>ih.2 h κ sd λs' u' k' R' =>K s' (p9.trans u') (k₁.trans k') R')
inductive QI(κ:aW W G)(a:Cf)(id:Str)(body:List aG)(l:List (Int×V))(st' :aq)(I:aQ)(S:Nat→cG→Prop)(n:Nat):ay→Prop
 |mk (d:Cf) (i:Nat) (bj:aq) (oi:km) (e:n=l.length -i) (hi:i≤l.length) (h:DB G body id (l.drop i) bj=ag st') (hS:S i d.s.heap) (le:Le ae a d) (R:Rl W κ bj (d.own (I,oi) d.s)):QI κ a id body l st' I S n d.s
theorem WG{k:Int}{v:ao}(h:(intKind W.prog W.w).is k v=ae):bL k v:=by
 obtain⟨t,rfl⟩:=Value.isInt_shape h
 exact .mk t
theorem T3(hG:cb W X G)(hq:G.quiet=ae){id:Str}{p pos:Pos}{iter:aw}{body:List aG}:bY W X G (.For (.Name id p) iter body [] pos) (IF G id iter body):=λh=>a_ h λq Jo h=>bF h λvD h=>a_ h λst' hi h=>Rz.leaf .next st' h λκ a _ Q E _ R K=>by
 have VD:∀v,foldedSetIterable iter κ.env v=pure v:=aD Jo λz hz _ v=>by
  obtain⟨np,ap,e⟩:=xx hz
  rw[e];rfl
 refine wpAny_For (qY hG Jo R λd t r=>?_) VD
 obtain⟨o,kv,g,D,hk,z,hL,up⟩:=r
 obtain⟨ep,I9⟩:=(Heap.dictOf_iff.mpr ⟨o,g,D⟩:a.s.heap.DictOf (intKind W.prog W.w) d kv).dictAt
 refine wpAny_pyIter_dict (s:={a.s with toks:=t}) z I9 ?_
 have Wk:=Walks.dictKeys (prog:=W.prog) (w:=W.w) (A:=κ.A) (knd:=intKind W.prog W.w) (κ.quiet hq) a.s.heap.objs.size d (nK (ru g)) kv ep
 have IL:a.s.heap.objs.size≠κ.c.L:=λq=>by
  obtain⟨m,c1,f,e,⟨c2,F,H,S⟩,L⟩:=R
  obtain⟨oL,_,_,hL,_⟩:=F.ns
  have:=ru hL
  rw[q]at this;exact wh _ this
 refine codeAny_forLoop_any (QI κ a id body q.2 st' a.s.heap.objs.size (λi h=>h.IsKeyIter a.s.heap.objs.size d i kv.length ep∧h.DictAt (intKind W.prog W.w) d kv ep)) (λn cu hI=>?_) q.2.length
  ⟨a.to (pushS {a.s with toks:=t} {cls:=.type "dict_keyiterator",data:=.fields #[.ref d,.int 0 0,.int kv.length 0,.int ep 0]}),0,_,_,rfl,gx _,hi,⟨⟨_,kr _ rfl,rfl,rfl⟩,I9.push _⟩,Le.to (.mk _ _),(R.tok t).tO (o:={cls:=.type "dict_keyiterator",data:=.fields #[.ref d,.int 0 0,.int kv.length 0,.int ep 0]}) rfl⟩
 obtain⟨b,i,bj,oi,e,hi,hit,hS,le,sd⟩:=hI
 rw[e]
 rcases Nat.lt_or_eq_of_le hi with dJ|e
 ·rw[Ll dJ]at hit
  refine aD hit λdc hb hit=>?_
  refine Wk.item i b.s _ _ (by rw[hk.length];exact dJ) hS λv h' tk hP sR sU=>?_
  obtain⟨ik,xv,hx,VM⟩:=hP
  have VK:ik=q.2[i].1:=by
   have e1:(kv.map (·.1))[i]?=ag ik:=by rw[zw,hx];rfl
   rw[hk.names,zw,lH dJ]at e1
   exact(fX e1).symm
  have Wc:VR W b.fz κ.x (.int q.2[i].1) v:=VK▸WG VM
  have Vm:=sR.1
  obtain⟨wc,CX,_⟩:=Vm
  have AS:=Rel.Nt (a:=b) (s' :={b.s with heap:=h',toks:=tk}) (λx o hx e=>sU x o (λq=>hx (List.mem_singleton.mp q)) e) CX sd
  refine dv (wpAny_assign_Name (Ni (a:=b.own (a.s.heap.objs.size,wc) {b.s with heap:=h',toks:=tk}) vD Wc AS λbV p_ k₂ qg=>(aa5 hG 40).2 hb κ qg λiM FW Xu ux=>⟨_,DS dJ,⟨b.to iM,i+1,dc,wc,rfl,dJ,hit,Wk.frame (i+1) h' _ sR λx hx ob e=>?_,le.trans (Le.to (cU.trans (.mk h' tk) (p_.trans FW))),ux⟩⟩))
  have Jw:x≠κ.c.L:=by
   rcases List.mem_cons.mp hx with rfl|hx
   ·exact IL
   ·rw[List.mem_singleton.mp hx];exact hL
  exact Xu x ob Jw (k₂ x ob Jw e)
 ·rw[e,List.drop_length]at hit
  rw[e,←hk.length]at hS
  exact Wk.done b.s _ _ hS λh' tk sU=>wpAny_execs_nil (K (b.to {b.s with heap:=h',toks:=tk}) .next (le.trans (Le.to (.mk h' tk))).weak ⟨rfl,by rw[so (hit:ag bj=ag st')];exact Rel.BJ (a:=b) (s' :={b.s with heap:=h',toks:=tk}) (λx o hx e=>sU x o (λq=>hx (List.mem_singleton.mp q)) e) sd⟩)
end
def ES(h B:cG)(e C d:aQ):Option ao→Prop
 |none=>∃oe vs,h.get? e=ag oe∧oe.cls=.ref C∧oe.dict=ag d∧oe.data=.fields vs∧vs[1]?=ag .none
 |some fl=>∃oe vs T oT ts,h.get? e=ag oe∧oe.cls=.ref C∧oe.dict=ag d∧oe.data=.fields vs∧vs[1]?=ag (.ref T)∧B.get? T=bg∧T≠e∧h.get? T=ag oT∧oT.data=.fields ts∧ts[3]?=ag fl
structure Fl(h B:cG)(e C d:aQ)(l:List Env)(k:Option ao):Prop where
 stays:B.StaysIn h
 new:B.get? e=bg
 frames:h.FunFrames B l
 es:ES h B e C d k
section
variable{M:Model}{A:eK}{E:ao→ay→Prop}{s:ay}{B:cG}{e C d L:aQ}{env:Env}{outer l:List Env}{k:Option ao}
theorem Ex{h:cG}{T:aQ}{oT:km}{ts:Array ao}(hT:h.get? T=ag oT)(hd:oT.data=.fields ts)(f:Array ao→Array ao):
 (∀b,b≠T→(h.update T (wi f)).get? b=h.get? b)∧(h.update T (wi f)).get? T=ag (oT.mapFields f)∧(oT.mapFields f).data=.fields (f ts)∧
 (∀b o,h.get? b=ag o→(∀vs,o.data≠ .fields vs)→(h.update T (wi f)).get? b=ag o):=by
 have o1:∀b,b≠T→(h.update T (wi f)).get? b=h.get? b:=λb hb=>Heap.get?_update_other _ _ (Ne.symm hb)
 refine⟨o1,Ey _ hT (Obj.isFreed_of_fields (Obj.data_mapFields hd _)),Obj.data_mapFields hd _,λb o hb hn=>(o1 b λq=>?_).trans hb⟩
 rw[q,hT]at hb
 cases hb
 exact hn ts hd
theorem RC(o:km)(f:Array ao→Array ao):(o.mapFields f).dict=o.dict:=by
 unfold wi
 split<;>rfl
theorem xY(o:Option aQ){fl:ao}{Q:Unit→ay→Prop}(x:Fl s.heap B e C d l (ag fl))
 (hQ:∀h',Fl h' B e C d l (ag (o.elim .none λf=>rawInt f))→s.heap.UpToSlots h' →Q () {s with heap:=h' }):aA M A (setFlight (.ref e) o) Q E s:=by
 obtain⟨x1,x2,x3,oe,vs,T,oT,ts,he,hc,iC,hd,h1,vE,vu,hT,pa,h3⟩:=x
 have I8:=(Array.getElem?_eq_some_iff.mp h3).1
 obtain⟨o1,o2,o3,o4⟩:=Ex hT pa (·.setIfInBounds 3 (o.elim mn λf=>rawInt f))
 unfold setFlight
 refine bq (wpAny_field he hd h1 ?_)
 rw[if_pos (show(jV T !=mn)=ae from by simp)]
 refine wpAny_setField hT pa I8 (hQ _ ⟨λb ob q=>(o1 b λz=>by rw[z,vE]at q;cases q).trans (x1 b ob q),x2,x3.of_keeps λb ob hb hn=>⟨ob,o4 b ob hb hn,rfl⟩,?_⟩ λb ob hb hn=>⟨ob.slots,o4 b ob hb hn⟩)
 exact⟨oe,vs,T,_,_,(o1 e (Ne.symm vu)).trans he,hc,iC,hd,h1,vE,vu,o2,o3,by simp[I8]⟩
theorem HK{oe:km}{vs:Array ao}{head:ao}{Vn:Bool}{Q:Unit→ay→Prop}(iD:A.frames=ag (env::outer))(hf:env.frame=ag L)(x1:B.StaysIn s.heap)(x2:B.get? e=bg)(x3:s.heap.FunFrames B (env::outer))
 (he:s.heap.get? e=ag oe) (hc:oe.cls=.ref C) (iC:oe.dict=ag d) (hd:oe.data=.fields vs) (gP:1<vs.size)
 (hQ:∀h',Fl h' B e C d (env::outer) (ag (rawInt L))→s.heap.UpToSlots h' →Q () {s with heap:=h' }):
 aA M A (do let a ←frameOf env;let pl ←entryPlaceOf L Vn;let b ←aah head a .none (rawInt L) .none pl;setField (.ref e) 1 b) Q E s:=by
 have jL:e∉(env::outer).filterMap (·.frame):=λhm=>by
  obtain⟨_,ob,hb,hn⟩:=x3.mem hm
  rw[he]at hb;cases hb;exact hn vs hd
 refine bq (wpAny_frameOf_fun iD x3 hf λcV so=>bq (wpAny_entryPlaceOf λpl qP=>?_))
 unfold aah newFields
 refine bq (wpAny_newObj_type ?_ (qP.sizeOk5 _ _ _ _ _))
 generalize V3:([head,.ref L,.none,rawInt L,.none]++(if pl.isEmpty then List.replicate 6 mn else pl)).toArray=rec
 have h3:rec[3]?=ag (rawInt L):=by subst V3;simp
 have oU:cV.get? e=ag oe:=(so.2.1 e jL).trans he
 have k₁:B.StaysIn cV:=λb ob q=>(so.2.1 b λhm=>by rw[(x3.mem hm).1]at q;cases q).trans (x1 b ob q)
 have oW:=nF (h:=cV) {cls:=.type "traceback",dict:=bg,data:=.fields rec} oU
 have adQ:(cV.push {cls:=.type "traceback",dict:=bg,data:=.fields rec}).get? cV.objs.size=ag {cls:=.type "traceback",dict:=bg,data:=.fields rec}:=kr cV rfl
 have fS:cV.objs.size≠e:=Lu (ru oU)
 obtain⟨o1,o2,o3,o4⟩:=Ex oW hd (·.setIfInBounds 1 (jV cV.objs.size))
 have up:s.heap.UpToSlots ((cV.push {cls:=.type "traceback",dict:=bg,data:=.fields rec}).update e (wi (·.setIfInBounds 1 (jV cV.objs.size)))):=λb ob hb hn=>by
  obtain⟨sl,hs⟩:=so.2.2 b ob hb
  exact⟨sl,o4 b _ (nF _ hs) hn⟩
 refine wpAny_setField oW hd gP (hQ _ ⟨λb ob q=>(o1 b λz=>by rw[z,x2]at q;cases q).trans (nF _ (k₁ b ob q)),x2,x3.of_keeps λb ob hb hn=>?_,?_⟩ up)
 ·obtain⟨sl,hs⟩:=up b ob hb hn
  exact⟨_,hs,rfl⟩
 ·exact⟨_,_,cV.objs.size,_,rec,o2,(Obj.cls_mapFields _ _).trans hc,(RC _ _).trans iC,o3,by simp[gP],k₁.fresh,fS,(o1 _ fS).trans adQ,rfl,h3⟩
theorem En{Q:Unit→ay→Prop}(iD:A.frames=ag (env::outer))(hf:env.frame=ag L)(x:Fl s.heap B e C d (env::outer) k)(hk:k=bg∨k=ag .none∨k=ag (rawInt L))
 (hQ:∀h',Fl h' B e C d (env::outer) (ag (rawInt L))→s.heap.UpToSlots h' →Q () {s with heap:=h' }):aA M A (noteFrame (.ref e) env) Q E s:=by
 have x' :=x
 obtain⟨x1,x2,x3,x4⟩:=x
 unfold noteFrame
 simp only[hf]
 rcases hk with rfl|rfl|rfl
 ·obtain⟨oe,vs,he,hc,iC,hd,h1⟩:=x4
  refine bq (wpAny_field he hd h1 ?_)
  rw[if_neg (by decide)]
  exact HK iD hf x1 x2 x3 he hc iC hd (Array.getElem?_eq_some_iff.mp h1).1 hQ
 ·obtain⟨oe,vs,T,oT,ts,he,hc,iC,hd,h1,vE,vu,hT,pa,h3⟩:=x4
  refine bq (wpAny_field he hd h1 ?_)
  rw[if_pos (show(jV T !=mn)=ae from by simp)]
  refine bq (wpAny_field hT pa h3 ?_)
  rw[if_neg (show ¬((mn==rawInt L)=ae)from by simp[rawInt])]
  obtain⟨o1,o2,o3,o4⟩:=Ex hT pa (·.setIfInBounds 3 mn)
  refine bq (wpAny_setField hT pa (Array.getElem?_eq_some_iff.mp h3).1 ?_)
  refine HK iD hf (λb ob q=>(o1 b λz=>by rw[z,vE]at q;cases q).trans (x1 b ob q)) x2 (x3.of_keeps λb ob hb hn=>⟨ob,o4 b ob hb hn,rfl⟩) ((o1 e (Ne.symm vu)).trans he) hc iC hd (Array.getElem?_eq_some_iff.mp h1).1 λh' y1 y2=>hQ h' y1 ?_
  exactλb ob hb hn=>y2 b ob (o4 b ob hb hn) hn
 ·obtain⟨oe,vs,T,oT,ts,he,hc,iC,hd,h1,vE,vu,hT,pa,h3⟩:=x4
  refine bq (wpAny_field he hd h1 ?_)
  rw[if_pos (show(jV T !=mn)=ae from by simp)]
  refine bq (wpAny_field hT pa h3 ?_)
  rw[if_pos (show(rawInt L==rawInt L)=ae from by simp)]
  exact dv (hQ s.heap x' (Heap.UpToSlots.refl _))
end
def here(c:Act)(k:Option ao):Prop:=k=bg∨k=ag .none∨k=ag (rawInt c.L)
structure O3(c:Act)(m:Str→Option ao)(cs:Cells)(h:cG):Prop where
 fresh:∀q∈cs,q.1≠c.L∧c.h₀.get? q.1=bg
 nodup:(cs.map (·.1)).Nodup
 ns:h.Ns c.L m
 up:c.h₀.UpToSlots h
 above:c.h₀.objs.size≤c.L
inductive ui(W:Wd)(x:aQ)(c:Act)(m:Str→Option ao)(cells fz:Cells)(h:cG)(k:Option ao):V→ao→Prop
 |mk (e C:aQ) (fs:List (Str×V)) (d:aQ) (es:List DictEntry) (n:Nat) (B:cG) (base:c.base.StaysIn B) (f:Fl h B e C d (c.env::c.outer) k) (old:∀q∈cells++fz,B.get? q.1=ag q.2) (hd:(d,dictOf es n)∈fz) (z:Only fs es) (R:gd W fz x fs (gl es)) (S:O3 c m (cells++fz) h):ui W x c m cells fz h k (.obj C fs) (.ref e)
inductive r8(W:Wd)(x:aQ)(c:Act)(m:Str→Option ao)(cells fz:Cells)(y:V)(ev:ao)(h:cG):Prop
 |mk (k:Option ao) (hk:here c k) (f:ui W x c m cells fz h k y ev):r8 W x c m cells fz y ev h
noncomputable def FX(W:Wd):bU:=⟨λx c m _ cells fz y ev s=>r8 W x c m cells fz y ev s.heap⟩
section
variable{W:Wd}{x:aQ}{c:Act}{m:Str→Option ao}{cells cells' fz:Cells}{y:V}{ev:ao}{h h' :cG}{k k' :Option ao}
theorem ui.NC(hs:cells'.Sublist cells):ui W x c m cells fz h k y ev→ui W x c m cells' fz h k y ev
 |.mk e C fs d es n B a3 a4 a5 a6 z R S=> .mk e C fs d es n B a3 a4 (λq hq=>a5 q ((hs.append (Ln fz)).subset hq)) a6 z R ⟨λq hq=>S.fresh q ((hs.append (Ln fz)).subset hq),S.nodup.sublist ((hs.append (Ln fz)).map _),S.ns,S.up,S.above⟩
theorem DM(W:Wd):AM W (FX W):=by
 intro A₀ c c' m x st' a y ev s' Q E hA0 vv VY aeC hA hB FG xv K
 obtain⟨bz,m',c1,l,hf,i5,L,u⟩:=xv
 obtain⟨k,hk,i5⟩:=(i5:r8 _ _ _ _ _ _ _ _ _)
 have i5:=i5.NC (pK c1 a.rest)
 obtain⟨e,C,fs,d,es,n,B,a3,a4,a5,a6,z,R,S⟩:=i5
 unfold leaving
 rw[VY]at a4
 refine bq (En (outer:=c.env::c.outer) (L:=c'.L) (Ez hB.stack) rfl a4 hk λcV sP p9=>?_)
 refine xY bg (s:={s' with heap:=cV}) sP λhW lV p_=>?_
 have uu:s'.heap.UpToSlots hW:=p9.trans p_
 refine K {s' with heap:=hW} bz hf ⟨ag .none,.inr (.inl rfl),.mk e C fs d es n B (vv▸a3) ⟨lV.stays,lV.new,lV.frames.2.2,lV.es⟩ a5 a6 z R ⟨λq hq=>?_,S.nodup,(S.up.trans uu).ns FG.ns,?_,FG.above⟩⟩ (u.trans (.mk hW s'.toks))
 ·obtain⟨_,hg⟩:=S.fresh q hq
  refine⟨λe=>?_,?_⟩
  ·obtain⟨oL,_,_,hL,_⟩:=FG.ns
   rw[e,hL]at hg;cases hg
  ·cases q' :c.h₀.get? q.1 with
   |none=>rfl
   |some o=>rw[FG.keep _ _ q']at hg;cases hg
 ·exact((aad FG.keep).trans S.up).trans uu
theorem rC(W:Wd):Passes W (FX W):=by
 intro x c A st π cs rest fz y ev s s' E hA xv K
 obtain⟨bz,m,c1,l,hf,i5,L,u⟩:=xv
 obtain⟨k,hk,i5⟩:=(i5:r8 _ _ _ _ _ _ _ _ _)
 have i5:=i5.NC (cells' :=c1++rest) ((Ln _).append (pK _ _))
 obtain⟨e,C,fs,d,es,n,B,a3,a4,a5,a6,z,R,S⟩:=i5
 unfold notedBy
 refine En (outer:=c.outer) (L:=c.L) hA.frames rfl a4 hk λcV sP p9=>?_
 unfold cameBackBy
 obtain⟨oe,vs,T,oT,ts,he,hc,iC,hd,h1,_⟩:=sP.es
 refine bq (wpAny_field he hd h1 ?_)
 rw[if_neg (show ¬((jV T==mn)=ae)from by simp)]
 refine xY _ (s:={s' with heap:=cV}) sP λhW lV p_=>?_
 have uu:s'.heap.UpToSlots hW:=p9.trans p_
 exact K {s' with heap:=hW} ⟨bz,m,c1,l,hf,⟨ag (rawInt c.L),.inr (.inr rfl),.mk e C fs d es n B a3 lV a5 a6 z R ⟨S.fresh,S.nodup,uu.ns S.ns,S.up.trans uu,S.above⟩⟩,L,u.trans (.mk hW s'.toks)⟩
end
section
variable{W:Wd}{x:aQ}{c:Act}{A:eK}{a:Cf}{st:aq}{E:ao→ay→Prop}
theorem ac9{id:Str}{y:V}{v:ao}{Q:Unit→ay→Prop}(hA:il W c A)(hk:c.env.kindOf id=ag .local)(hv:VR W a.fz x y v)(R:Rel W x c st a)(K:∀d,Le ae a d→Rel W x c (d7 id y st) d→Q () d.s):aA W.M A (storeName c.env id v) Q E a.s:=by
 obtain⟨m,c1,f,e,⟨c2,F,H,S⟩,L⟩:=R
 exact storeX_L F H.N (λh' F' N' =>K (a.to {a.s with heap:=h',toks:=a.s.toks+1}) (Le.to (.mk _ _)) ⟨_,c1,f,e,⟨c2,F',⟨N',H.D⟩,S⟩,L.put hv (if_pos rfl) λb hb=>if_neg hb⟩) hA.kind hk
theorem Fl.ex{h B:cG}{e C d:aQ}{l:List Env}{k:Option ao}(f:Fl h B e C d l k):∃oe vs,h.get? e=ag oe∧oe.cls=.ref C∧oe.dict=ag d∧oe.data=.fields vs:=by
 have:=f.es
 cases k with
 |none=>obtain⟨oe,vs,h1,h2,h3,h4,_⟩:=this;exact⟨oe,vs,h1,h2,h3,h4⟩
 |some y=>obtain⟨oe,vs,T,oT,ts,h1,h2,h3,h4,_⟩:=this;exact⟨oe,vs,h1,h2,h3,h4⟩
theorem ae9{K:jX}{M:Model}{A:eK}{E:ao→ay→Prop}{s:ay}{C fI e:aQ}{oe:km}{Q:Bool→ay→Prop}(X:K.In s.heap)(ok:pS K C fI=ae)(he:s.heap.get? e=ag oe)(CD:oe.cls=.ref C)(hq:Q ae s):aA M A (excMatches (.ref e) (.ref C)) Q E s:=by
 obtain⟨⟨nm',q,N,bs,bm,qL,sn,sub,ab,col,dd,k0,k1,k2,k3,k5,hC,H⟩,-⟩:=Fb X ok
 exact wpAny_excMatches_sub_self hC he CD H.base hq
theorem ae8{c:Act}{B h:cG}{cs:Cells}{e:aQ}{oe:km}(H:Hp c B cs)(S:B.StaysIn h)(he:h.get? e=ag oe)(FB:B.get? e=bg)(hs:∀o,c.h₀.get? e=ag o→B.get? e=ag o)(hL:e≠c.L):Hp c h ((e,oe)::cs):=by
 refine⟨λp hp=>?_,List.nodup_cons.mpr ⟨λhm=>?_,H.D⟩⟩
 ·rcases List.mem_cons.mp hp with rfl|hp
  ·refine⟨he,hL,?_⟩
   cases q:c.h₀.get? e with
   |none=>rfl
   |some o=>cases(hs o q).symm.trans FB
  ·exact⟨S _ _ (H.N p hp).1,(H.N p hp).2⟩
 ·obtain⟨p,hp,ep⟩:=List.mem_map.mp hm
  have:=(H.N p hp).1
  rw[ep]at this
  cases this.symm.trans FB
theorem afa{c:Act}{h:cG}{m:Str→Option ao}{e:aQ}{oe:km}{vs:Array ao}(F:Fr c.h₀ c.L h m)(he:h.get? e=ag oe)(hd:oe.data=.fields vs):e≠c.L:=λq=>by
 obtain⟨oL,es',ep,gL,dL,_⟩:=F.ns
 cases fX (he.symm.trans (q▸gL))
 cases hd.symm.trans dL
theorem ji(W:Wd):ip W (FX W):=by
 intro x c A st a C fI fs ev s t nm Bu FF pos hs Q E hA vv V4 VU xv HT K
 obtain⟨bz,m,c1,l,hf,i5,L,u⟩:=xv
 obtain⟨k,hk,i5⟩:=(i5:r8 _ _ _ _ _ _ _ _ _)
 obtain⟨e,C,fs,d,es,n,B,a3,a4,a5,a6,z,R,S⟩:=i5
 rw[vv]at a3
 refine En (outer:=c.outer) (L:=c.L) hA.frames rfl a4 hk λcV sP p9=>?_
 refine xY bg (s:={s with heap:=cV}) sP λhW lV p_=>?_
 have Gp:Fr c.h₀ c.L hW m:=⟨(p9.trans p_).ns S.ns,λb o e=>lV.stays b o (a3 b o e),S.above⟩
 refine wpAny_handleBy_cons (codeAny_handlers_test (HT (A.mark (ag (.ref e))) m {s with heap:=hW} _ _ Gp ?_)) (by intro q;cases q)
 obtain⟨oe,vs,he,CD,_⟩:=lV.ex
 refine ae9 (hA.bX.keeps Gp.keep) V4 he CD (codeAny_handlers_suite_as ?_)
 refine xY bg (s:={s with heap:=hW}) lV λpf yl FW=>?_
 have uu:s.heap.UpToSlots pf:=(p9.trans p_).trans FW
 have Gq:Fr c.h₀ c.L pf m:=⟨uu.ns S.ns,λb o e=>yl.stays b o (a3 b o e),S.above⟩
 obtain⟨oe,vs,he,CD,Vx,Ji⟩:=yl.ex
 have VV:notCls oe=ae:=by
  unfold notCls
  rw[Ji]
 have HB:Hp c B ((c1++a.rest)++bz):=⟨λp hp=>⟨a5 p hp,S.fresh p hp⟩,S.nodup⟩
 have Pf:Hp c pf ((e,oe)::((c1++a.rest)++bz)):=ae8 HB yl.stays he yl.new (a3 e) (afa Gq he Ji)
 have sub:Sub bz ((e,oe)::bz):=Sub.cons _ _
 have qg:Rel W x c ⟨st.loc,bg,st.free⟩ ⟨⟨a.π.f,l⟩,a.rest,(e,oe)::bz,{s with heap:=pf}⟩:=⟨m,c1,a.π.f,.inr rfl,⟨[],Gq,Pf.perm List.perm_middle.symm,trivial⟩,L.up sub (Sub.refl _)⟩
 refine ac9 (a:=⟨⟨a.π.f,l⟩,a.rest,(e,oe)::bz,{s with heap:=pf}⟩) (y:=.obj C fs) (⟨hA.below,hA.bX,hA.top,hA.frames,hA.kind⟩:il W c (A.mark (ag (.ref e)))) VU (oy.mk e oe d es n (.inl (.head _)) CD Vx VV (.inl (.tail _ a6)) ⟨z,R.up sub⟩) qg λd' l' ux=>?_
 exact iK (K d' ((⟨λh=>nt h,rfl,rfl,hf.trans sub,u.trans (.mk pf s.toks)⟩:Le af a ⟨⟨a.π.f,l⟩,a.rest,(e,oe)::bz,{s with heap:=pf}⟩).trans l'.weak) ux) (λ_ _ q=>q) λ_ _ q=>q.elim
end
noncomputable abbrev jo(C t:aQ)(D:Option aQ):km:=⟨.ref C,D,.fields #[.ref t,.none,.none,.none,.bool af,.none],#[]⟩
section
variable{W:Wd}{G:aX}{c:Act}{A:eK}{h:cG}{m:Str→Option ao}{C t e D x:aQ}{es:List DictEntry}{n:Nat}{fs:List (Str×V)}{rest fz c1 c2:Cells}
theorem Tn(hA:il W c A)(F:Fr c.h₀ c.L h m)(H:Hp c h ((e,jo C t (ag D))::(D,dictOf es n)::(rest++fz)))(z:Only fs es)(R:gd W fz x fs (gl es)):r8 W x c m rest ((D,dictOf es n)::fz) (.obj C fs) (.ref e) h:=by
 have BF:=pushX hA.below F (env:=c.env) rfl hA.kind
 have jL:∀env∈(c.env::c.outer),∀b,env.frame=ag b→b∈e::(c.env::c.outer).filterMap (·.frame):=λenv he b hb=> .tail _ (List.mem_filterMap.mpr ⟨env,he,hb⟩)
 obtain⟨ne,H2⟩:=List.nodup_cons.mp H.D
 have old:∀q∈(D,dictOf es n)::(rest++fz),(hideAll h (e::(c.env::c.outer).filterMap (·.frame))).get? q.1=ag q.2:=λq hq=>by
  have hN:=H.N q (.tail _ hq)
  refine hideAll_get _ hN.1 λhm=>?_
  rcases List.mem_cons.mp hm with q1|hm
  ·exact ne (List.mem_map.mpr ⟨q,hq,q1⟩)
  ·obtain⟨env,he,iD⟩:=List.mem_filterMap.mp hm
   rcases List.mem_cons.mp he with rfl|he
   ·exact hN.2.1 (fX iD).symm
   ·obtain⟨o,ho,_⟩:=(hA.below.frames.mem (List.mem_filterMap.mpr ⟨env,he,iD⟩)).2
    rw[hN.2.2]at ho;cases ho
 have pm:(rest++((D,dictOf es n)::fz)).Perm ((D,dictOf es n)::(rest++fz)):=LA
 refine⟨bg,.inl rfl,.mk e C fs D es n (hideAll h (e::(c.env::c.outer).filterMap (·.frame))) (λb o hb=>hideAll_get _ (BF.stays b o hb) λhm=>?_) ⟨λb o q=>of_hideAll _ q,hideAll_none _ (.head _),funFrames_hide BF.frames jL,jo C t (ag D),_,(H.N _ (.head _)).1,rfl,rfl,rfl,rfl⟩ (λq hq=>old q (pm.mem_iff.mp hq)) (.head _) z (R.up (Sub.cons _ _)) ⟨λq hq=>(H.N q (.tail _ (pm.mem_iff.mp hq))).2,(pm.map _).nodup_iff.mpr H2,F.ns,aad F.keep,F.above⟩⟩
 rcases List.mem_cons.mp hm with rfl|hm
 ·have:=(H.N (b,jo C t (ag D)) (.head _)).2.2
  rw[hA.below.stays _ _ hb]at this;cases this
 ·rw[(BF.frames.mem hm).1]at hb;cases hb
theorem Yo{tu:km}(F:Fr c.h₀ c.L h m)(H:Hp c h c2):Fr c.h₀ c.L ((h.push tu).push (nM C t)) m∧Hp c ((h.push tu).push (nM C t)) ((h.objs.size+1,nM C t)::c2):=by
 have e:(h.push tu).objs.size=h.objs.size+1:=zD ..
 rw[←e]
 have H1:=H.keeps (wB h tu)
 exact⟨(F.push tu).push _,H1.cons (F.push tu) (tP _) (λb o _=>wB _ _ b o) (kr _ rfl)⟩
inductive O2(G:aX)(more:List aG)(self v0 n0:Str)(C:aQ)(bnd:fc)(ys:List V)(fs:List (Str×V)):Prop
 |mk (loc:List (Str×V)) (l' mX:FS) (y0:V) (len:aJ ys.length 100=ae) (hf:frozen mX=ag fs) (hb:bnd (.ak::ys) []=ag loc) (hs:aV self (eB loc)=ag (.v .ak)) (hv:aV v0 (eB loc)=ag (.v y0)) (k1:isLocal (G.kind self)=ae) (k2:isLocal (G.kind v0)=ae)
  (sW:Gv (aN G 60 more ⟨eB loc,ag (C,[(n0,.v y0)]),af⟩ (λo st=>leaf (o,st))) (.next,⟨l',ag (C,mX),af⟩))
theorem Sy{r:Cells}(h' :cG)(H:Hp c h ((e,jo C t bg)::r))(N:News c.h₀ c.L h' ((D,dictOf es n)::(e,jo C t (ag D))::r))(l:∀p∈(e,jo C t bg)::r,p.1<D):Hp c h' ((e,jo C t (ag D))::(D,dictOf es n)::r):=
 Hp.perm (EK ..) ⟨N,List.nodup_cons.mpr ⟨λhm=>by
  obtain⟨p,hp,ep⟩:=List.mem_map.mp (show D∈((e,jo C t bg)::r).map (·.1)from hm)
  have:=l p hp
  rw[ep]at this
  exact wh _ this,H.D⟩⟩
theorem Sx{self n0 v0:Str}{p1 p2 p3 p4:Pos}{more:List aG}{κ:aW W G}{loc:List (Str×V)}{l' mX:FS}{y0:V}{r:Cells}{s:ay}{Q:Flow→ay→Prop}{E:ao→ay→Prop}
 (CO:isLocal (G.kind self)=ae) (VL:isLocal (G.kind v0)=ae) (C_:qB W.K C n0=ae) (hs:aV self (eB loc)=ag (.v .ak)) (hv:aV v0 (eB loc)=ag (.v y0)) (hx:κ.x=e)
 (H:uo (FX W) κ (aA W.M κ.A (execs more κ.env)) ⟨eB loc,ag (C,[(n0,.v y0)]),af⟩ .next ⟨l',ag (C,mX),af⟩) (F:Fr κ.c.h₀ κ.c.L s.heap m) (HH:Hp κ.c s.heap ((e,jo C t bg)::(r++fz))) (L:AR W fz e [] (λ_=>0) m (eB loc))
 (K:∀D d,Sub fz d.fz→cU s d.s→d.rest=r→Rl W κ ⟨l',ag (C,mX),af⟩ d→d.π.f=⟨λ_=>0,jo C t (ag D)⟩→Q .next d.s):aA W.M κ.A (execs (.Assign [.Attribute (.Name self p1) n0 p2] (.Name v0 p3) p4::more) κ.env) Q E s:=by
 subst hx
 have R:Rl W κ ⟨eB loc,bg,af⟩ ⟨⟨⟨λ_=>0,jo C t bg⟩,λ_=>0⟩,(κ.x,jo C t bg)::r,fz,s⟩:=⟨m,[],_,.inr rfl,⟨[],F,HH,trivial⟩,L⟩
 refine wpAny_execs_cons (plainObj_wpAny_Assign_Attribute (tB VL hv R λv la=>tB CO hs R λo ho=>?_) rfl)
 have ho:o=.ref κ.x:=ho
 subst ho
 refine SM (pre:=[]) F κ.hA.bX HH.N (λp hp=>nomatch hp) (λp hp q=>(List.nodup_cons.mp HH.D).1 (List.mem_map.mpr ⟨p,hp,q⟩)) C_ λD h5 t5 t5' F5 N5 hD=>?_
 refine H ⟨⟨⟨λ_=>0,jo C t (ag D)⟩,λ_=>0⟩,r,fz,{s with heap:=h5,toks:=t5}⟩ _ _ ⟨_,[],_,.inr rfl,⟨_,F5,Sy h5 HH N5 hD,.mk D _ _ [] rfl rfl rfl (eF _) (Only.set (fs:=[]) (es:=[]) ⟨rfl,λ_ _=>rfl⟩) (AR.put (p:=λ_=>0) (g:=λ_=>bg) (l:=[]) la (by rw[vg,if_pos rfl]) (λb hb=>by rw[vg,if_neg hb];rfl) ⟨λh=>no h,λh=>no h⟩)⟩,L⟩ (λd f l hf=>?_) λy ev s' e=>nomatch e
 rw[show f=.next from hf.1]
 exact K D d l.fz ((cU.mk h5 t5).trans l.u) l.rest hf.2 l.f
theorem SA{Ai:Self}{c' :Act}{A:eK}{d:Cf}{x:aQ}{m:Str→Option ao}{l' mX:FS}{fz:Cells}{s:ay}{P:Result→ay→Prop}(hA:il W c A){x' :aQ}(hx:x' =e)(R:Rel W x' c' ⟨l',ag (C,mX),af⟩ d)(hd:d.rest=c2++rest)(he:d.π.f=⟨λ_=>0,jo C t (ag D)⟩)(hf:frozen mX=ag fs)(hz:Sub fz d.fz)(u:cU s d.s)
 (K:∀v,AG W (FX W) C x c m Ai rest fz s fs d.s v→v=.ref e→P (.ok (.ret .none)) d.s):LeaveK c.h₀ c.L m c'.h₀ P .none d.s:=by
 subst hx
 obtain⟨m6,QH,φ6,e6,⟨c26,F6,H6,S6⟩,L6⟩:=R
 have e6:φ6=_:=(e6.elim (λe=>nt e) id).trans he
 subst e6
 obtain⟨D',es,n,c3,oc,od,on,le,z,R6⟩:=(S6:kJ _ _ _ _ _ _ _)
 cases so od
 have H6:=H6.sub (((((pK c2 rest).trans (hd▸pK QH d.rest)).append_right d.fz).trans (pK c3 _)).cons_cons _|>.cons_cons _)
 refine bK hf λha hg=>aD hg λl hl hg=>bK hg λhn hg=>?_
 cases so hg
 exact leaveK_ F6 H6.N λF8 N8=>K _ (.mk _ _ _ _ ((D,dictOf es n)::d.fz) (hA.bX.keeps F8.keep) (N8 _ (.head _)).1 (hz.trans (Sub.cons _ _)) (Tn hA F8 ⟨N8,H6.D⟩ ⟨z.1,λa h=>z.2 a (IM hl h)⟩ (gd.re hn (IK hl ha λa y hy=>R6.at_ hy))) u) rfl
noncomputable def setOf(s:aG):Option (Str×Str×Str):=ob (Bc s) λq=>ob (one q.1) λt=>ob (uF t) λp=>ob (nameOf q.2.1) λv=>ag (p.1,p.2,v)
theorem abV{s:aG}{q:Str×Str×Str}(h:setOf s=ag q):∃p1 p2 p3 p4,s=.Assign [.Attribute (.Name q.1 p1) q.2.1 p2] (.Name q.2.2 p3) p4:=aD h λz hz h=>aD h λt ht h=>aD h λp hp h=>aD h λv hv h=>by
 obtain⟨p1,p2,e⟩:=xx hp
 obtain⟨p3,e'⟩:=ly hv
 rw[so h,GQ hz,dN ht,e,e']
 exact⟨p1,p2,p3,_,rfl⟩
theorem SJ{fI:aQ}{more:List aG}{self n0 v0:Str}{scope:Scope}{bnd:fc}{ns:List Str}(hr:pS W.K C fI=ae){body:List aG}{s0:aG}(eb:body=s0::more)(e0:setOf s0=ag (self,n0,v0))(Dd:b4 W fI body scope bnd)(hG:cb W (FX W) G)(ht:G.top=af)(hk:∀y,G.kind y=scope.names.lookup y)(HL:cC more=[])(C_:qB W.K C n0=ae)
 (sW:∀ys fs,d6 ys=ae→oS ns ys=ag fs→O2 G more self v0 n0 C bnd ys fs):qb W (FX W) (G.dep+2) C fI ns:=by
 obtain⟨p1,p2,p3,p4,e0⟩:=abV e0
 rw[eb,e0]at Dd
 refine⟨hr,λφ x c A m Ai rest fz s ys vals fs hA hh m5 CC hv Jq VE=>?_⟩
 obtain⟨loc,l',mX,y0,len,hf,hb,hs,Wb,k1,k2,sW⟩:=sW ys fs Jq VE
 have h:mG W (FX W) G _ (λo st=>leaf (o,st)) _ more:=(rP hG (ji W) 60).2 (λq hq=>by rw[HL]at hq;exact nomatch hq) sW
 obtain⟨o,st',H,h⟩:=Rz.out h
 cases So h
 obtain⟨c2,F,HH,S⟩:=CC
 obtain⟨hp,g,d,tk,os⟩:=s
 obtain⟨F2,H2⟩:=Yo (t:=hp.objs.size) (tu:={cls:=.type "tuple",data:=.seq vals.toArray}) F HH
 refine SH (hA.bX.keeps F.keep) hr (by rw[hv.length,nY];exact aL (bw len) (by decide)) (wpAny_call (Hi Dd ht hk hb (AZ hA) (λ_=>hh) (Fg (Nat.succ_pos _) m5) F2 H2 (xb (aS.re Jq hv)) rfl λκ cV t m' dp F' H' L=>?_))
 refine Sx (r:=c2++rest) (fz:=fz) k1 k2 C_ hs Wb dp.x' (H κ) F' (H'.perm (.of_eq (congrArg _ (aR ..).symm))) (dp.x' ▸L) λD d VF u hr R he=>?_
 exact SA (x:=x) (Ai:=Ai) (fz:=fz) (s:=⟨hp,g,‹_›,tk,os⟩) hA dp.x' R hr he hf VF (cU.trans (.mk cV _) u) λv h e=>⟨rfl,e▸h⟩
end
inductive AI(W:Wd)(x:aQ)(c:Act)(m:Str→Option ao)(dC:Self)(rest fz:Cells)(s s' :ay):Result→Prop
 |mk (qa:iP) (bz:Cells) (f:Sub fz bz) (C:CR W qa x c m dC rest bz s'.heap) (u:cU s s'):AI W x c m dC rest fz s s' (.ok (.ret .none))
def AJ(W:Wd)(D:Nat)(q:Bool)(f:aQ)(args:List V)(self dC:Self):Prop:=
 ∀φ x c A m rest fz s vals mean,il W c A→(q=ae→A.handled=bg)→kI A D→Top W.p W.loose mean W.mg W.mb c.h₀→CR W φ x c m self rest fz s.heap→aS W fz x args vals→
  codeAny W.M A (.call (.ref f) ⟨vals,[]⟩) (λres s' =>AI W x c m dC rest fz s s' res) s
section
variable{W:Wd}{X:bU}{G:aX}
theorem WC{c c' :Act}{d:Cf}{x:aQ}{m:Str→Option ao}{st' :aq}{rest fz:Cells}{s:ay}{P:Result→ay→Prop}(R:Rel W x c' st' d)(hd:d.rest=rest)(hz:Sub fz d.fz)(u:cU s d.s)
 (K:∀v,AI W x c m st'.self rest fz s d.s v→P v d.s):LeaveK c.h₀ c.L m c'.h₀ P .none d.s:=by
 obtain⟨m',c1,qa,e,⟨uM,F2,H2,S2⟩,L2⟩:=R
 have H3:=H2.sub (((pK c1 d.rest).append_right d.fz).append_left uM)
 rw[hd]at H3
 exact leaveK_ F2 H3.N λF4 N4=>K _ (.mk qa d.fz hz ⟨uM,F4,⟨N4,H3.D⟩,S2⟩ u)
theorem Hp.new{c:Act}{h h' :cG}{p:aQ×km}{cs:Cells}(H:Hp c h cs)(N:News c.h₀ c.L h' (p::cs))(l:∀q∈cs,q.1<p.1):Hp c h' (p::cs):=
 ⟨N,List.nodup_cons.mpr ⟨λhm=>by
  obtain⟨q,hq,e⟩:=List.mem_map.mp hm
  have:=l q hq
  rw[e]at this
  exact wh _ this,H.D⟩⟩
theorem pm6{c1 c2 r z:Cells}{p q:aQ×km}:(c2++((c1++(p::q::r))++z)).Perm (p::q::(c2++((c1++r)++z))):=jA.trans (jA.cons p)
theorem WB{fR D C cc cda:aQ}{κ:aW W G}{φ:iP}{more:List aG}{v0:Str}{p0 p1 ap np cp pos:Pos}{body:List aG}{sO vd:FS}{loc:List (Str×V)}{l' :FS}{y0:V}{ar:Arg}{fd:FuncData}{oc:ao}{od:Option aQ}{osl:Array (Option ao)}{mean:ExcName→Option ao}{rest fz:Cells}{s:ay}{Q:Flow→ay→Prop}{E:ao→ay→Prop}
 {vs:Array ao} {file:Str} {tf:Tok} {ccl xI:ao} {cdd cld:Option aQ} {ccs csl:Array (Option ao)} {xH:ClassData} (CB:κ.c.cd=.ref cda) (yq:κ.c.cl=[(("__class__":Str),cc)])
 (T:Top W.p W.loose mean W.mg W.mb κ.c.h₀) (CU:aH ap.endLine cp.line=ae) (at_:W.K.lookup κ.c.f=ag ⟨oc,od,.func fd,osl⟩) (hp:(fd.params.posonlyargs++fd.params.args).head?=ag ar) (CE:W.K.lookup cda=ag ⟨ccl,cdd,.fields vs,ccs⟩) (m8:vs[2]?=ag (.str file tf)) (CN:((W.prog.main.file:Str)==file)=ae)
 (vw:W.K.lookup cc=ag ⟨xI,cld,.cell (ag (.ref D)),csl⟩) (hD:clsIn W.K D=ag xH) (De:mroIn W.K C (.ref D)=ag ae) (Df:nsIn W.K mainGlobals "super"=ag bg)
 (CS:κ.c.scope.names.lookup ("super":Str)=ag .globalImplicit) (CQ:κ.c.scope.names.lookup ("__class__":Str)=ag .free) (CP:κ.c.scope.names.lookup ar.arg=ag .local)
 (Dk:(W.prog.main.scope.names.lookup ("super":Str)).isSome=af) (CA:bootBuiltins "super"=ag (.type "super")) (Cy:nsIn W.K cStatics "thirdparty.any"=ag bg)
 (hm:ks_superIn W.K C D "__init__"=ag (ag (.ref fR))) (Dj:typeIn W.K (.ref fR)=ag (.type "function")) (CM:fnIn W.K fR=ae)
 (hs:aV ar.arg (eB loc)=ag (.v .ak)) (hy:aV v0 (eB loc)=ag (.v y0)) (vC:isLocal (G.kind v0)=ae) (HR:om W X G.dep G.quiet fR [.ak,y0] [] (ag (C,[])) (.ok .none) (ag (C,sO)))
 (H:uo X κ (aA W.M κ.A (execs more κ.env)) ⟨eB loc,ag (C,sO),ae⟩ .next ⟨l',ag (C,vd),ae⟩) (R:Rl W κ ⟨eB loc,ag (C,[]),ae⟩ ⟨⟨φ,λ_=>0⟩,rest,fz,s⟩)
 (K:∀d,Sub fz d.fz→cU s d.s→d.rest=rest→Rl W κ ⟨l',ag (C,vd),ae⟩ d→Q .next d.s):_root_.PySem.wpAt W.M κ.A (.func body κ.env) (execs (.Expr (.Call (.Attribute (.Call (.Name "super" p0) [] [] p1) "__init__" ap) [.Name v0 np] [] cp) pos::more) κ.env) Q E s:=by
 refine ks_wpAt_execs_cons (ks_wpAt_Expr_any (ks_wpAt_MethodCall ?_ (Hh CU rfl)) (by unfold interactive;show(κ.c.scope.kind==.module&&_)=af;rw[κ.hA.kind];rfl) rfl)
 have Jl:κ.env=ksEnv κ.c.qual κ.c.scope κ.c.L κ.c.f (.ref cda) cc:=by
  show envX _ _ _ _ κ.c.cd κ.c.cl=_
  rw[CB,yq]
 rw[Jl]
 obtain⟨m,c1,f',e,⟨c2,F,HH,S⟩,L⟩:=R
 obtain⟨d,es,n,c3,zt,zu,on,le,z,R'⟩:=(S:kJ _ _ _ _ _ _ _)
 obtain⟨vx,VT,Dp⟩:=L.at_ hs
 have Dp:vx=.ref κ.x:=Dp
 subst Dp
 refine ks_node F κ.hA.bX HH.N T at_ hp VT (show InstAt _ _ f'.o C (ag (dictOf es n))from⟨HH.N.get (.head _),zt,on,by rw[zu];exact HH.N.get (.tail _ (.head _))⟩) CE m8 CN vw hD De Df (by decide) CS CQ CP κ.hA.kind Dk CA λso h2 F2 N2 X_=>?_
 have H2:=HH.new N2 X_
 refine ks_method F2 κ.hA.bX H2.N (.head _) (show InstAt _ _ f'.o C (ag (dictOf es n))from⟨H2.N.get (.tail _ (.head _)),zt,on,by rw[zu];exact H2.N.get (.tail _ (.tail _ (.head _)))⟩) Cy hm Dj (by decide) λq h3 F3 N3 Yb=>?_
 have H3:=(H2.new N3 Yb).perm (pm6 (p:=(q,methodObj (.ref fR) (.ref κ.x))) (q:=(so,ks_superObj D κ.x C)) (c2:=(κ.x,f'.o)::(d,dictOf es n)::c3) (c1:=c1) (r:=rest) (z:=fz)).symm
 have R3:Rl W κ ⟨eB loc,ag (C,[]),ae⟩ ⟨⟨f',λ_=>0⟩,(q,methodObj (.ref fR) (.ref κ.x))::(so,ks_superObj D κ.x C)::rest,fz,{s with heap:=h3,toks:=s.toks+1}⟩:=⟨m,c1,f',.inl rfl,⟨_,F3,H3,.mk d es n c3 zt zu on le z R'⟩,L⟩
 have hq:(q,methodObj (.ref fR) (.ref κ.x))∈((κ.x,f'.o)::(d,dictOf es n)::c3)++((c1++((q,methodObj (.ref fR) (.ref κ.x))::(so,ks_superObj D κ.x C)::rest))++fz):=bM _ (ib _ (bM _ (.head _)))
 refine callWith_M (h₀:=κ.c.h₀) (L:=κ.c.L) (news:=[(q,methodObj (.ref fR) (.ref κ.x))]) κ.hA.bX (λp hp=>H3.N p (List.mem_singleton.mp hp▸hq)) (.head _) CM (spliced_cons ?_) rfl rfl
 rw[←Jl]
 refine tB vC hy R3 λv hv=>wpAny_items_nil ⟨⟨(H3.N _ hq).1,κ.hA.bX.keeps F3.keep⟩,wpAny_call (method_call (H3.N _ hq).1 (codeAny_mono (HR f' κ.x κ.c κ.A m (c1++((q,methodObj (.ref fR) (.ref κ.x))::(so,ks_superObj D κ.x C)::rest)) fz {s with heap:=h3,toks:=s.toks+1} (.ref κ.x::[v]) [] κ.hA κ.quiet κ.room ⟨(κ.x,f'.o)::(d,dictOf es n)::c3,F3,H3,.mk d es n c3 zt zu on le z R'⟩ (xb (dH.mk v [] hv rfl:aS W fz κ.x [y0] [v])) rfl) λres s5 q5=>?_))⟩
 obtain⟨v5,UR,yu,hv5,C5,u5⟩:=(q5:COk _ _ _ _ _ _ _ _ _ _ _ _)
 exact wpAt_of_wpAny (H ⟨⟨f',λ_=>0⟩,rest,UR,s5⟩ _ _ (Rel.less (cs:=[(q,methodObj (.ref fR) (.ref κ.x)),(so,ks_superObj D κ.x C)]) ⟨m,c1,f',.inl rfl,C5,L.up yu (Sub.refl _)⟩) (λd f l hf=>by
  rw[show f=.next from hf.1]
  exact K d (yu.trans l.fz) ((cU.mk h3 _).trans (u5.trans l.u)) l.rest hf.2) λy ev s' e=>nomatch e)
theorem WD{fI fR D C cc cda:aQ}{more:List aG}{v0 name qual:Str}{p0 p1 ap np cp pos:Pos}{scope:Scope}{bnd:fc}{ys:List V}{sO vd:FS}{loc:List (Str×V)}{l' :FS}{y0:V}{ar:Arg}{params:Arguments}{dV kV doc pm ct oc:ao}{an od:Option aQ}{osl:Array (Option ao)}
 {vs:Array ao} {file:Str} {tf:Tok} {ccl xI:ao} {cdd cld:Option aQ} {ccs csl:Array (Option ao)} {xH:ClassData} {b:List aG} (eb:b=.Expr (.Call (.Attribute (.Call (.Name "super" p0) [] [] p1) "__init__" ap) [.Name v0 np] [] cp) pos::more)
 (at_:W.K.lookup fI=ag ⟨oc,od,.func (fnX name qual params b scope [(("__class__":Str),cc)] dV kV doc pm an (.ref cda) ct),osl⟩) (code:codeIn W.K (.ref cda) qual=ae) (co:scope.isCoroutine=af) (gen:scope.isGenerator=af) (kind:scope.kind=.function) (cell:∀x∈scope.names,x.2≠ .cell) (sr:scope.names.lookup (ai "__debug__")=bg)
 (bind:xd W (fnX name qual params b scope [(("__class__":Str),cc)] dV kV doc pm an (.ref cda) ct) scope.names (.ak::ys) [] loc)
 (CU:aH ap.endLine cp.line=ae) (hp:(params.posonlyargs++params.args).head?=ag ar) (CE:W.K.lookup cda=ag ⟨ccl,cdd,.fields vs,ccs⟩) (m8:vs[2]?=ag (.str file tf)) (CN:((W.prog.main.file:Str)==file)=ae)
 (vw:W.K.lookup cc=ag ⟨xI,cld,.cell (ag (.ref D)),csl⟩) (hD:clsIn W.K D=ag xH) (De:mroIn W.K C (.ref D)=ag ae) (Df:nsIn W.K mainGlobals "super"=ag bg)
 (CS:scope.names.lookup ("super":Str)=ag .globalImplicit) (CQ:scope.names.lookup ("__class__":Str)=ag .free) (CP:scope.names.lookup ar.arg=ag .local)
 (Dk:(W.prog.main.scope.names.lookup ("super":Str)).isSome=af) (CA:bootBuiltins "super"=ag (.type "super")) (Cy:nsIn W.K cStatics "thirdparty.any"=ag bg)
 (hm:ks_superIn W.K C D "__init__"=ag (ag (.ref fR))) (Dj:typeIn W.K (.ref fR)=ag (.type "function")) (CM:fnIn W.K fR=ae)
 (hG:cb W X G) (HC:ip W X) (ht:G.top=af) (hk:∀y,G.kind y=scope.names.lookup y) (HL:du W X G (cC more))
 (hs:aV ar.arg (eB loc)=ag (.v .ak)) (hy:aV v0 (eB loc)=ag (.v y0)) (vC:isLocal (G.kind v0)=ae)
 (HR:om W X G.dep G.quiet fR [.ak,y0] [] (ag (C,[])) (.ok .none) (ag (C,sO)))
 (sW:Gv (aN G 60 more ⟨eB loc,ag (C,sO),ae⟩ (λo st=>leaf (o,st))) (.next,⟨l',ag (C,vd),ae⟩)):
 AJ W (G.dep+1) G.quiet fI (.ak::ys) (ag (C,[])) (ag (C,vd)):=by
 intro φ x c A m rest fz s vals mean hA hq m5 T CC hv
 have h:mG W X G _ (λo st=>leaf (o,st)) _ more:=(rP hG HC 60).2 HL sW
 obtain⟨o,st',H,h⟩:=Rz.out h
 cases So h
 subst eb
 obtain⟨hn,vD,Cz⟩:=bind
 obtain⟨c2,F,HH,S⟩:=CC
 obtain⟨binds,hB,vt⟩:=Cz fz x vals [] hv rfl
 have jL:=hA.bX.keeps F.keep
 refine ks_code_super (cc:=cc) hA.below F hA.bX HH.N T hA.frames rfl hA.kind at_ code (lF (dh _ _) m5.1) (hB s jL) (λp hp=>?_) (λg L' cV FG F' N' B' Xg T' _=>?_) cell co gen kind
 ·have:p.1∈loc.map (·.1):=by rw[←vt.names];exact zO hp
  obtain⟨q,hq,e⟩:=List.mem_map.mp this
  rw[←e];exact vD q hq
 ·let κ:aW W G:=⟨x,⟨A,c.base,g,c.env::c.outer,L',qual,scope,fI,.ref cda,[(("__class__":Str),cc)]⟩,_,⟨B',Xg,topRead_of T',Ez B'.stack,kind⟩,hq,Mt m5,λh=>nt (ht.symm.trans h),hk,sr⟩
  refine WB (κ:=κ) (φ:=φ) (rest:=rest) (fz:=fz) rfl rfl T' CU at_ hp CE m8 CN vw hD De Df CS CQ CP Dk CA Cy hm Dj CM hs hy vC HR (H κ) ⟨_,[],φ,.inl rfl,⟨c2,F',⟨N',HH.D⟩,S⟩,AR.nil λa y hl=>?_⟩ λd hf u hr R=>WC (x:=x) R hr hf (cU.trans (.mk cV _) u) λv q=>q
  obtain⟨z,e,hz⟩:=Gx hl
  rw[e]
  exact⟨rfl,vt.got hn hz⟩
end
noncomputable def n0:Str:=ai "name"
noncomputable def n1:Str:=ai "stream"
noncomputable def n2:Str:=ai "stream_pointer"
noncomputable def n3:Str:=ai "eof"
noncomputable def n4:Str:=ai "buffer"
noncomputable def n5:Str:=ai "pointer"
noncomputable def n6:Str:=ai "raw_buffer"
noncomputable def n7:Str:=ai "raw_decode"
noncomputable def n8:Str:=ai "encoding"
noncomputable def n9:Str:=ai "index"
noncomputable def zk:Str:=ai "line"
noncomputable def zl:Str:=ai "column"
noncomputable def Eb:Str:=ai "done"
noncomputable def Ec:Str:=ai "flow_level"
noncomputable def Ed:Str:=ai "tokens"
noncomputable def Ee:Str:=ai "tokens_taken"
noncomputable def Ef:Str:=ai "indent"
noncomputable def Eg:Str:=ai "indents"
noncomputable def Eh:Str:=ai "allow_simple_key"
noncomputable def Ei:Str:=ai "possible_simple_keys"
structure Sc where
 nm:List Nat
 sp:Int
 eo:Bool
 buf:List Nat
 ptr:Int
 idx:Int
 cI:Int
 col:Int
 iu:Bool
 fB:Int
 toks:List V
 taken:Int
 ind:Int
 i9:List V
 allow:Bool
 keys:List (Int×V)
noncomputable def Sc.fs(s:Sc):FS:=[(n0,.v (.str s.nm)),(n1,.v .none),(n2,.v (.int s.sp)),(n3,.v (.bool s.eo)),(n4,.v (.str s.buf)),(n5,.v (.int s.ptr)),(n6,.v .none),(n7,.v .none),(n8,.v .none),(n9,.v (.int s.idx)),(zk,.v (.int s.cI)),(zl,.v (.int s.col)),(Eb,.v (.bool s.iu)),(Ec,.v (.int s.fB)),(Ed,.own s.toks),(Ee,.v (.int s.taken)),(Ef,.v (.int s.ind)),(Eg,.own s.i9),(Eh,.v (.bool s.allow)),(Ei,.keys s.keys)]
noncomputable def nameList:List Str:=[n0,n1,n2,n3,n4,n5,n6,n7,n8,n9,zk,zl,Eb,Ec,Ed,Ee,Ef,Eg,Eh,Ei]
noncomputable def fG{α β:Type}(nm:Str)(f:FV→Option β)(g:β→FS→Option α)(fs:FS):Option α:=cv fs bg λp t=>tt (seq p.1 nm) (ob (f p.2) λy=>g y t)
noncomputable def FV.FD(y:FV):Option (List Nat):=ob y.v? V.s?
noncomputable def FV.int?(y:FV):Option Int:=ob y.v? V.i?
noncomputable def FV.bool?(y:FV):Option Bool:=ob y.v? V.b?
noncomputable def FV.wa(y:FV):Option Unit:=ob y.v? λv=>tt (oe v.n? id af) (ag ())
theorem IS{y:FV}{a:List Nat}(h:y.FD=ag a):y=.v (.str a):=aD h λv hv h=>by rw[kc hv,jc h]
theorem oX{y:FV}{a:Int}(h:y.int?=ag a):y=.v (.int a):=aD h λv hv h=>by rw[kc hv,iE h]
theorem B_{y:FV}{a:Bool}(h:y.bool?=ag a):y=.v (.bool a):=aD h λv hv h=>by rw[kc hv,j9 h]
theorem xZ{y:FV}{a:Unit}(h:y.wa=ag a):y=.v .none:=aD h λv hv h=>bK h λh _=>by rw[kc hv,lx h]
noncomputable def FQ:FS→Option Sc:=
 fG n0 FV.FD λnm=>fG n1 FV.wa λ_=>fG n2 FV.int? λsp=>fG n3 FV.bool? λeo=>fG n4 FV.FD λbuf=>fG n5 FV.int? λptr=>fG n6 FV.wa λ_=>fG n7 FV.wa λ_=>fG n8 FV.wa λ_=>fG n9 FV.int? λidx=>
 fG zk FV.int? λcI=>fG zl FV.int? λcol=>fG Eb FV.bool? λiu=>fG Ec FV.int? λfB=>fG Ed FV.o? λtoks=>fG Ee FV.int? λtaken=>fG Ef FV.int? λind=>fG Eg FV.o? λi9=>fG Eh FV.bool? λallow=>fG Ei FV.k? λkeys t=>
 tt (isNil t) (ag ⟨nm,sp,eo,buf,ptr,idx,cI,col,iu,fB,toks,taken,ind,i9,allow,keys⟩)
theorem aeM(s:Sc):FQ s.fs=ag s:=by kernel_rfl
theorem fZ{α β:Type}{nm:Str}{f:FV→Option β}{g:β→FS→Option α}{fs:FS}{r:α}{w:β→FV}{P:Prop}(hw:∀v y,f v=ag y→v=w y)(h:fG nm f g fs=ag r)(k:∀y t,fs=(nm,w y)::t→g y t=ag r→P):P:=by
 cases fs with
 |nil=>exact no h
 |cons p t=>exact bK h λe h=>aD h λy hy h=>k y t (by rw[←eN.mp e,←hw _ _ hy]) h
theorem adR{fs:FS}{s:Sc}(h:FQ fs=ag s):fs=s.fs:=fZ (w:=λy=> .v (.str y)) (λ_ _=>IS) h λnm t0 e0 h=>fZ (w:=λ_=> .v .none) (λ_ _=>xZ) h λ_ t1 e1 h=>fZ (w:=λy=> .v (.int y)) (λ_ _=>oX) h λsp t2 e2 h=>fZ (w:=λy=> .v (.bool y)) (λ_ _=>B_) h λeo t3 e3 h=>fZ (w:=λy=> .v (.str y)) (λ_ _=>IS) h λbuf t4 e4 h=>fZ (w:=λy=> .v (.int y)) (λ_ _=>oX) h λptr t5 e5 h=>fZ (w:=λ_=> .v .none) (λ_ _=>xZ) h λ_ t6 e6 h=>fZ (w:=λ_=> .v .none) (λ_ _=>xZ) h λ_ t7 e7 h=>fZ (w:=λ_=> .v .none) (λ_ _=>xZ) h λ_ t8 e8 h=>fZ (w:=λy=> .v (.int y)) (λ_ _=>oX) h λidx t9 e9 h=>fZ (w:=λy=> .v (.int y)) (λ_ _=>oX) h λcI t10 RH h=>fZ (w:=λy=> .v (.int y)) (λ_ _=>oX) h λcol t11 RI h=>fZ (w:=λy=> .v (.bool y)) (λ_ _=>B_) h λiu t12 RJ h=>fZ (w:=λy=> .v (.int y)) (λ_ _=>oX) h λfB t13 RL h=>fZ (w:=.own) (λ_ _=>qG) h λtoks t14 RM h=>fZ (w:=λy=> .v (.int y)) (λ_ _=>oX) h λtaken t15 RN h=>fZ (w:=λy=> .v (.int y)) (λ_ _=>oX) h λind t16 RO h=>fZ (w:=.own) (λ_ _=>qG) h λi9 t17 RQ h=>fZ (w:=λy=> .v (.bool y)) (λ_ _=>B_) h λallow t18 RU h=>fZ (w:=.keys) (λ_ _=>Ic) h λkeys t19 RV h=>bK h λhn h=>by
 cases so h
 exact e0.trans (congrArg _ (e1.trans (congrArg _ (e2.trans (congrArg _ (e3.trans (congrArg _ (e4.trans (congrArg _ (e5.trans (congrArg _ (e6.trans (congrArg _ (e7.trans (congrArg _ (e8.trans (congrArg _ (e9.trans (congrArg _ (RH.trans (congrArg _ (RI.trans (congrArg _ (RJ.trans (congrArg _ (RL.trans (congrArg _ (RM.trans (congrArg _ (RN.trans (congrArg _ (RO.trans (congrArg _ (RQ.trans (congrArg _ (RU.trans (congrArg _ (RV.trans (congrArg _ (c_ hn))))))))))))))))))))))))))))))))))))))))
noncomputable abbrev ak(s:Sc):Self:=ag (1048,s.fs)
def lD(self:Self)(g:Sc→au):au:=Ob self λc=>Tt (aH c.1 1048) (Ob (FQ c.2) g)
theorem mi{self:Self}{g:Sc→au}{r:R}{P:Prop}(h:Gv (lD self g) r)(k:∀s,self=ak s→Gv (g s) r→P):P:=a_ h λc hc h=>bF h λhn h=>a_ h λs hs h=>k s (by rw[hc];unfold ak;rw[←adR hs,←bG hn]) h
noncomputable def sL(s:String):List Nat:=(ai s).cps.toList
theorem Gv.of{X:au}{r:R}{E:Prop}(p:List Bool)(e:E=X p r)(h:E):Gv X r:=⟨p,e▸h⟩
theorem Gv.at{X:au}{r:R}{E C:Prop}(p:List Bool)(e:E=X p r)(f:(E→Gv X r)→C):C:=f λh=>⟨p,e▸h⟩
theorem Gv.to{X:au}{r:R}{E:List Bool→Prop}{C:Prop}(p:List Bool→List Bool)(e:∀q,E q=X (p q) r)(f:(∀{Y:au},Gv Y r→(∀q,Y q r→E q)→Gv X r)→C):C:=f λ⟨q,h⟩ g=>⟨p q,e q▸g q h⟩
theorem aj{a b:Prop}(x:a)(y:b):a∧b:=⟨x,y⟩
theorem aC{α:Type}{p:α→Prop}(w:α)(h:p w):∃x,p x:=⟨w,h⟩
def dE(p:Prop):Prop:=∃_:Unit,p
theorem dI{p:Prop}(h:p):dE p:=⟨(),h⟩
theorem tT:ae=ae:=rfl
theorem tF:af=af:=rfl
def tp(b:Bool)(Q:Prop):Prop:=lG b False Q
def fp(b:Bool)(Q:Prop):Prop:=lG b Q False
def op{α:Type}(o:Option α)(Q:α→Prop):Prop:=pO o False Q
theorem aM{b:Bool}{Q:Prop}(h:b=ae)(q:Q):tp b Q:=by rw[h];exact q
theorem aez{b:Bool}{Q:Prop}(h:b=af)(q:Q):fp b Q:=by rw[h];exact q
theorem az{α:Type}{o:Option α}{Q:α→Prop}{a:α}(h:o=ag a)(q:Q a):op o Q:=by rw[h];exact q
noncomputable def ky(r:Res)(self:Self):R:=Res.casesOn r (λv=>(.ret v,⟨[],self,af⟩)) λv=>(.exc v,⟨[],self,af⟩)
def bA(r:Res)(self:Self):au:=leaf (ky r self)
theorem LW{r r' :Res}{s s' :Self}(h:ky r s=ky r' s'):r=r' ∧s=s' :=by
 cases r<;>cases r' <;>cases h<;>exact⟨rfl,rfl⟩
def Gives(F:Fn)(args:List V)(s:Sc)(r:Res)(s' :Sc):Prop:=Gv (F args [] (ak s) bA) (ky r (ak s'))
def wdK{α:Type}(F:Fn)(e:α→V)(args:List V)(s:Sc)(k:Res→Self→au):au:=λp r=>∃a s',Gives F args s (.ok (e a)) s' ∧k (.ok (e a)) (ak s') p r
def wxK{α:Type}(F:Fn)(e:α→V)(args:List V)(s:Sc)(k:Res→Self→au):au:=λp r=>cv p False λd p=>lG d (∃v s',Gives F args s (.exc v) s' ∧k (.exc v) (ak s') p r) (∃a s',Gives F args s (.ok (e a)) s' ∧k (.ok (e a)) (ak s') p r)
def wd{α:Type}(F:Fn)(e:α→V):Fn:=λargs aE self k=>Tt (isNil aE) (lD self λs=>wdK F e args s k)
def wx{α:Type}(F:Fn)(e:α→V):Fn:=λargs aE self k=>Tt (isNil aE) (lD self λs=>wxK F e args s k)
section
variable{W:Wd}{X:bU}{D:Nat}{q:Bool}{f:aQ}{F S:Fn}
theorem bH.by(H:bH W X D q f F)(h:∀args aE self k r,Gv (S args aE self k) r→∃r' dC,Gv (F args aE self bA) (ky r' dC)∧Gv (k r' dC) r):bH W X D q f S:=by
 intro args aE self k r e
 obtain⟨r',dC,h1,h2⟩:=h args aE self k r e
 obtain⟨r'',aeJ,h3,h4⟩:=H args aE self bA _ h1
 obtain⟨rfl,rfl⟩:=LW (So h4)
 exact⟨_,_,h3,h2⟩
theorem bH.wd{α:Type}{e:α→V}(H:bH W X D q f F):bH W X D q f (wd F e):=H.by λargs aE self k r h=>bF h λhk h=>mi h λs hs h=>by
 obtain⟨p,a,s',h1,h2⟩:=h
 exact⟨_,_,by rw[c_ hk,hs];exact h1,⟨p,h2⟩⟩
theorem bH.wx{α:Type}{e:α→V}(H:bH W X D q f F):bH W X D q f (wx F e):=H.by λargs aE self k r h=>bF h λhk h=>mi h λs hs h=>by
 obtain⟨p,h⟩:=h
 cases p with
 |nil=>exact h.elim
 |cons d p=>cases d with
  |true=>obtain⟨a,s',h1,h2⟩:=h;exact⟨_,_,by rw[c_ hk,hs];exact h1,⟨p,h2⟩⟩
  |false=>obtain⟨a,s',h1,h2⟩:=h;exact⟨_,_,by rw[c_ hk,hs];exact h1,⟨p,h2⟩⟩
theorem om.mono{D' :Nat}{q' :Bool}{args:List V}{aE:List (Str×V)}{self dC:Self}{r:Res}(H:om W X D q f args aE self r dC)(hD:D≤D')(hq:q=ae→q' =ae):om W X D' q' f args aE self r dC:=
 λφ x c A m rest fz s vals kvs h1 h2 h3=>H φ x c A m rest fz s vals kvs h1 (λh=>h2 (hq h)) ⟨lF (c8 hD _) h3.1,lF (c8 (nH 8 hD) _) h3.2⟩
theorem bH.mono{D' :Nat}{q' :Bool}(H:bH W X D q f F)(hD:D≤D')(hq:q=ae→q' =ae):bH W X D' q' f F:=λargs aE self k r h=>by
 obtain⟨r',dC,h1,h2⟩:=H args aE self k r h
 exact⟨r',dC,h1.mono hD hq,h2⟩
theorem bH.says(H:bH W X D q f F)(h:∀args aE self k r,Gv (S args aE self k) r→Gv (F args aE self k) r):bH W X D q f S:=λargs aE self k r e=>H args aE self k r (h args aE self k r e)
end
section
variable{t:aq→au}{st st' :aq}{r:R}{v:V}
theorem eZ(h:Gv (t st) (.next,st'))(h2:Gv (bo t st') r):Gv (bo t st) r:=by
 obtain⟨_,n,p,h2⟩:=h2
 exact⟨[],n+1,p,_,h,h2⟩
theorem aeH(h:Gv (t st) (.cont,st'))(h2:Gv (bo t st') r):Gv (bo t st) r:=by
 obtain⟨_,n,p,h2⟩:=h2
 exact⟨[],n+1,p,_,h,h2⟩
theorem iG(h:Gv (t st) (.brk,st')):Gv (bo t st) (.next,st'):=⟨[],1,[],_,h,rfl⟩
theorem DY(h:Gv (t st) (.ret v,st')):Gv (bo t st) (.ret v,st'):=⟨[],1,[],_,h,rfl⟩
theorem q9(h:Gv (t st) (.exc v,st')):Gv (bo t st) (.exc v,st'):=⟨[],1,[],_,h,rfl⟩
end
def gR{α:Type}(t:aq→au)(sh:FS→α→FS):Lp:=λst k p r=>∃a s,Gv (bo t st) (.next,⟨sh st.loc a,ak s,af⟩)∧k .next ⟨sh st.loc a,ak s,af⟩ p r
def tv{α:Type}(t:aq→au)(sh:FS→α→FS):Lp:=λst k p r=>cv p False λd p=>lG d (∃v l s,Gv (bo t st) (.exc v,⟨l,ak s,af⟩)∧k (.exc v) ⟨l,ak s,af⟩ p r) (∃a s,Gv (bo t st) (.next,⟨sh st.loc a,ak s,af⟩)∧k .next ⟨sh st.loc a,ak s,af⟩ p r)
def vW{α:Type}(t:aq→au)(e:α→V):Lp:=λst k p r=>cv p False λd p=>lG d (∃v l s,Gv (bo t st) (.exc v,⟨l,ak s,af⟩)∧k (.exc v) ⟨l,ak s,af⟩ p r) (∃a l s,Gv (bo t st) (.ret (e a),⟨l,ak s,af⟩)∧k (.ret (e a)) ⟨l,ak s,af⟩ p r)
section
variable{W:Wd}{X:bU}{G:aX}{t:aq→au}{test:aw}{body:List aG}{pos:Pos}{α:Type}{cA:aG}{S:Lp}
theorem bY.says(H:bY W X G cA (λst k=>iH (bo t st) k))(h:∀st k r,Gv (S st k) r→∃o st',Gv (bo t st) (o,st')∧Gv (k o st') r):bY W X G cA S:=λ{st k r} e=>by
 obtain⟨o,st',h1,p,h2⟩:=h st k r e
 exact H ⟨p,(o,st'),h1,h2⟩
theorem bY.n{sh:FS→α→FS}(H:bY W X G cA (λst k=>iH (bo t st) k)):bY W X G cA (gR t sh):=H.says λst k r h=>by
 obtain⟨p,a,s,h1,h2⟩:=h
 exact⟨_,_,h1,p,h2⟩
theorem bY.x{sh:FS→α→FS}(H:bY W X G cA (λst k=>iH (bo t st) k)):bY W X G cA (tv t sh):=H.says λst k r h=>by
 obtain⟨p,h⟩:=h
 cases p with
 |nil=>exact h.elim
 |cons d p=>cases d with
  |true=>obtain⟨a,s',h1,h2⟩:=h;exact⟨_,_,h1,p,h2⟩
  |false=>obtain⟨a,l,s',h1,h2⟩:=h;exact⟨_,_,h1,p,h2⟩
theorem bY.r{e:α→V}(H:bY W X G cA (λst k=>iH (bo t st) k)):bY W X G cA (vW t e):=H.says λst k r h=>by
 obtain⟨p,h⟩:=h
 cases p with
 |nil=>exact h.elim
 |cons d p=>cases d with
  |true=>obtain⟨a,l,s',h1,h2⟩:=h;exact⟨_,_,h1,p,h2⟩
  |false=>obtain⟨a,l,s',h1,h2⟩:=h;exact⟨_,_,h1,p,h2⟩
end
inductive Src where
 |a (i:Nat)|n|i (k:Int) (t:Tok)
noncomputable def Src.y(l:List V)(s:Src):V:=Src.casesOn s (λi=>l.getD i .none) .none λk _=> .int k
noncomputable def Src.v(l:Nat→ao)(s:Src):ao:=Src.casesOn s l .none λk t=> .int k t
noncomputable def BP:List Str→List Str→Bool
 | [],r=>isNil r
 |a::r,t=>cv t af λb t=>seq a b&&BP r t
theorem HS:∀{a b:List Str},BP a b=ae→a=b
 | [],b,h=>(c_ h).symm
 |a::r,[],h=>nt h
 |a::r,b::t,h=>by rw[eN.mp (aF h).1,HS (aF h).2]
noncomputable def gK(n:Nat)(kn:List Str)(src:List (Str×Src)):fc:=λargs aE=>tt (aH args.length n&&BP (aE.map (·.1)) kn) (ag (src.map λp=>(p.1,p.2.y (args++aE.map (·.2)))))
noncomputable def DK:List Str→Nat→(Nat→ao)→List (Str×ao)
 | [],_,_=>[]
 |k::r,n,v=>(k,v n)::DK r (n+1) v
section
variable{W:Wd}{fz:Cells}{x:aQ}
theorem Cr{α:Type}{d y:α}{r:List α}:∀{p:List α},(p++y::r).getD p.length d=y
 | []=>rfl
 |_::p=>Cr (p:=p)
theorem Ka{d:ao}:∀{kvs:List (Str×ao)}{p:List ao},kvs=DK (kvs.map (·.1)) p.length λi=>(p++kvs.map (·.2)).getD i d
 | [],_=>rfl
 |q::kvs,p=>by
  have:=Ka (d:=d) (kvs:=kvs) (p:=p++[q.2])
  rw[bE,aR]at this
  show q::kvs=(q.1,(p++q.2::kvs.map (·.2)).getD p.length d)::_
  rw[Cr]
  exact congrArg _ this
theorem Mn{α:Type}{d:α}:∀{l r p:List α},l=(pJ p.length l.length).map λi=>(p++(l++r)).getD i d
 | [],_,_=>rfl
 |y::l,r,p=>by
  have:=Mn (d:=d) (l:=l) (r:=r) (p:=p++[y])
  rw[bE,aR]at this
  show y::l=(p++y::(l++r)).getD p.length d::_
  rw[Cr]
  exact congrArg _ this
theorem aS.getD:∀{l:List V}{vs:List ao}{i:Nat},aS W fz x l vs→VR W fz x (l.getD i .none) (vs.getD i .none)
 | [],vs,i,h=>by rw[(h:vs=[])];rfl
 |y::l,vs,i,h=>by
  obtain⟨v,r,hv,hr⟩:=(h:dH _ _ _)
  cases i with
  |zero=>exact hv
  |succ i=>exact aS.getD (l:=l) (i:=i) hr
theorem dW.vals:∀{l:List (Str×V)}{bs:List (Str×ao)},dW W fz x l bs→aS W fz x (l.map (·.2)) (bs.map (·.2))
 | [],bs,h=>by rw[(h:bs=[])];rfl
 |p::l,bs,h=>by obtain⟨v,r,hv,hr⟩:=(h:dH _ _ _);exact .mk _ _ hv.2 (dW.vals hr)
theorem Src.rel{l:List V}{v:Nat→ao}(h:∀i,VR W fz x (l.getD i .none) (v i))(s:Src):VR W fz x (s.y l) (s.v v):=by
 cases s with
 |a i=>exact h i
 |n=>rfl
 |i k t=>exact bL.mk t
theorem dW.src{l:List V}{v:Nat→ao}(h:∀i,VR W fz x (l.getD i .none) (v i)):∀{src:List (Str×Src)},dW W fz x (src.map λp=>(p.1,p.2.y l)) (src.map λp=>(p.1,p.2.v v))
 | []=>rfl
 |p::r=> .mk _ _ ⟨rfl,Src.rel h p.2⟩ (dW.src h)
noncomputable def Y5(k:NameKind):Bool:=rq k ae af ae ae ae
noncomputable def wU(sc:Scope):List (Str×Src)→Bool
 | []=>ae
 |p::r=>isLocal (aV p.1 sc.names)&&(oe (aV p.1 r) (λ_=>af) ae&&wU sc r)
noncomputable def MH(sc:Scope)(src:List (Str×Src)):Bool:=!sc.isCoroutine&&(!sc.isGenerator&&(yh sc.kind&&(kL (λ_ k=>Y5 k) sc.names&&(oe (aV oN sc.names) (λ_=>af) ae&&wU sc src))))
theorem Uu{k:ScopeKind}(h:yh k=ae):k=.function:=by cases k<;>first|rfl|exact nt h
theorem XZ{α:Type}{a:Str}{l:List (Str×α)}(h:aV a l=bg):a∉l.map (·.1):=by
 induction l with
 |nil=>exactλh=>nomatch h
 |cons p r ih=>
  unfold aV at h
  cases q:seq a p.1 with
  |true=>rw[q]at h;exact nomatch h
  |false=>
   rw[q]at h
   intro hm
   rcases List.mem_cons.mp hm with e|hm
   ·rw[eN.mpr e]at q;exact nomatch q
   ·exact ih h hm
theorem Lh{α:Type}{o:Option α}(h:oe o (λ_=>af) ae=ae):o=bg:=by
 cases o with
 |none=>rfl
 |some _=>exact nt h
theorem M9{sc:Scope}:∀{src:List (Str×Src)},wU sc src=ae→(src.map (·.1)).Nodup∧∀p∈src,sc.names.lookup p.1=ag .local
 | [],_=>⟨.nil,λ_ h=>nomatch h⟩
 |p::r,h=>by
  obtain⟨h1,h⟩:=aF h
  obtain⟨h2,h3⟩:=aF h
  obtain⟨i1,i2⟩:=M9 h3
  exact⟨List.nodup_cons.mpr ⟨XZ (Lh h2),i1⟩,λq hq=>(List.mem_cons.mp hq).elim (λe=>by rw[e,←l9];exact yF h1) (i2 q)⟩
theorem map_fst{β:Type}{f:Str×Src→β}{src:List (Str×Src)}:(src.map λp=>(p.1,f p)).map (·.1)=src.map (·.1):=by rw[Ly];rfl
theorem j_{fn:FuncData}{sc:Scope}{n:Nat}{kn:List Str}{src:List (Str×Src)}(hs:wU sc src=ae)(H:∀(v:Nat→ao)(s:ay),W.K.In s.heap→BindsTo s fn ⟨(pJ 0 n).map v,DK kn n v⟩ (src.map λp=>(p.1,p.2.v v))){args:List V}{aE loc:List (Str×V)}(h:gK n kn src args aE=ag loc):xd W fn sc.names args aE loc:=bK h λhc h=>by
 obtain⟨h1,h2⟩:=M9 hs
 obtain⟨c1,c2⟩:=aF hc
 have c1:=bG c1
 have c2:=HS c2
 cases so h
 refine⟨by rw[map_fst];exact h1,λp hp=>?_,λfz x vals kvs hv hw=>⟨_,λs hs=>?_,dW.src (v:=λi=>(vals++kvs.map (·.2)).getD i .none) λi=>(hv.append hw.vals).getD⟩⟩
 ·obtain⟨q,hq,e⟩:=List.mem_map.mp hp
  rw[←e];exact h2 q hq
 ·have:=H (λi=>(vals++kvs.map (·.2)).getD i .none) s hs
  rw[←c1,←hv.length,←c2,←hw.names,←Ka (p:=vals),show(pJ 0 vals.length).map (λi=>(vals++kvs.map (·.2)).getD i .none)=vals from(Mn (p:=[])).symm]at this
  exact this
theorem pG{f:aQ}{bnd:fc}{src:List (Str×Src)}{sc:Scope}{body:List aG}{params:Arguments}{name qual:Str}{cl:List (Str×aQ)}{doc pm cdv ct oc dV kV:ao}{an od:Option aQ}{osl:Array (Option ao)}
 (at_:W.K.lookup f=ag ⟨oc,od,.func (fnX name qual params body sc cl dV kV doc pm an cdv ct),osl⟩) (code:codeIn W.K cdv qual=ae) (hs:MH sc src=ae)
 (H:wU sc src=ae→∀args aE loc,bnd args aE=ag loc→xd W (fnX name qual params body sc cl dV kV doc pm an cdv ct) sc.names args aE loc):b4 W f body sc bnd:=by
 obtain⟨h1,hs⟩:=aF hs
 obtain⟨h2,hs⟩:=aF hs
 obtain⟨h3,hs⟩:=aF hs
 obtain⟨h4,hs⟩:=aF hs
 obtain⟨h5,hs⟩:=aF hs
 refine .mk cl name qual params dV kV doc pm an cdv ct oc od osl at_ code ((cR _).mp h1) ((cR _).mp h2) (Uu h3) (λx hx e=>?_) (by rw[←l9];exact Lh h5) (H hs)
 have:=uD h4 x hx
 rw[e]at this;exact nt this
end
noncomputable def wR:Nat→List Str→List (Str×Src)
 |_,[]=>[]
 |i,n::r=>(n,.a i)::wR (i+1) r
noncomputable def bN(ns:List Str):fc:=gK ns.length [] (wR 0 ns)
section
variable{W:Wd}(hK:W.K=K W.w.params)
include hK
theorem fi{a:aQ}{o:km}(h:(K W.w.params).lookup a=ag o):W.K.lookup a=ag o:=by rw[hK];exact h
theorem cL{f:aQ}{ns:List Str}{m:aG}{name qual:Str}{cl:List (Str×aQ)}{doc pm cdv ct:ao}(at_:(K W.w.params).lookup f=ag ⟨.type "function",bg,.func (fnX name qual (jl m) (aU m) (bP m) cl .none .none doc pm bg cdv ct),#[]⟩)(code:codeIn (K W.w.params) cdv qual=ae)(hs:MH (bP m) (wR 0 ns)=ae)
 (H:∀v,bindArgs (fnX name qual (jl m) (aU m) (bP m) cl .none .none doc pm bg cdv ct) ⟨(pJ 0 ns.length).map v,[]⟩=pure ((wR 0 ns).map λp=>(p.1,p.2.v v))):b4 W f (aU m) (bP m) (bN ns):=
 pG (fi hK at_) (by rw[hK];exact code) hs λhs _ _ _=>j_ hs λv s _=>zJ (H v)
theorem Oz:b4 W 35 (aU (bh "Mark" "__init__")) (bP (bh "Mark" "__init__")) (bN [ai "self",ai "name",ai "index",ai "line",ai "column",ai "buffer",ai "pointer"]):=
 cL hK (name:=(ai "__init__")) (qual:=(ai "Mark.__init__")) (cl:=[]) (doc:=.none) (pm:=(.str (ai "yaml.error") 194)) (cdv:=(.ref 34)) (ct:=.none) (by kernel_rfl) (by kernel_rfl) (by kernel_rfl) λv=>by kernel_rfl
theorem Om:b4 W 130 (aU (cS "_is_printable")) (bP (cS "_is_printable")) (bN [ai "ch"]):=
 cL hK (name:=(ai "_is_printable")) (qual:=(ai "_is_printable")) (cl:=[]) (doc:=.none) (pm:=(.str (ai "yaml.reader") 321)) (cdv:=(.ref 129)) (ct:=.none) (by kernel_rfl) (by kernel_rfl) (by kernel_rfl) λv=>by kernel_rfl
theorem Oo:b4 W 144 (aU (bh "Reader" "__init__")) (bP (bh "Reader" "__init__")) (bN [ai "self",ai "stream"]):=
 cL hK (name:=(ai "__init__")) (qual:=(ai "Reader.__init__")) (cl:=[]) (doc:=.none) (pm:=(.str (ai "yaml.reader") 321)) (cdv:=(.ref 143)) (ct:=.none) (by kernel_rfl) (by kernel_rfl) (by kernel_rfl) λv=>by kernel_rfl
theorem Gj:b4 W 175 (aU (bh "Reader" "get_mark")) (bP (bh "Reader" "get_mark")) (bN [ai "self"]):=
 cL hK (name:=(ai "get_mark")) (qual:=(ai "Reader.get_mark")) (cl:=[]) (doc:=.none) (pm:=(.str (ai "yaml.reader") 321)) (cdv:=(.ref 174)) (ct:=.none) (by kernel_rfl) (by kernel_rfl) (by kernel_rfl) λv=>by kernel_rfl
theorem Ov:b4 W 182 (aU (bh "Reader" "check_printable")) (bP (bh "Reader" "check_printable")) (bN [ai "self",ai "data"]):=
 cL hK (name:=(ai "check_printable")) (qual:=(ai "Reader.check_printable")) (cl:=[]) (doc:=.none) (pm:=(.str (ai "yaml.reader") 321)) (cdv:=(.ref 181)) (ct:=.none) (by kernel_rfl) (by kernel_rfl) (by kernel_rfl) λv=>by kernel_rfl
theorem Ow:b4 W 189 (aU (bh "Reader" "update")) (bP (bh "Reader" "update")) (bN [ai "self",ai "length"]):=
 cL hK (name:=(ai "update")) (qual:=(ai "Reader.update")) (cl:=[]) (doc:=.none) (pm:=(.str (ai "yaml.reader") 321)) (cdv:=(.ref 188)) (ct:=.none) (by kernel_rfl) (by kernel_rfl) (by kernel_rfl) λv=>by kernel_rfl
theorem Ox:b4 W 210 (aU (bh "Token" "__init__")) (bP (bh "Token" "__init__")) (bN [ai "self",ai "start_mark",ai "end_mark"]):=
 cL hK (name:=(ai "__init__")) (qual:=(ai "Token.__init__")) (cl:=[]) (doc:=.none) (pm:=(.str (ai "yaml.tokens") 464)) (cdv:=(.ref 209)) (ct:=.none) (by kernel_rfl) (by kernel_rfl) (by kernel_rfl) λv=>by kernel_rfl
theorem OB:b4 W 527 (aU (bh "SimpleKey" "__init__")) (bP (bh "SimpleKey" "__init__")) (bN [ai "self",ai "token_number",ai "required",ai "index",ai "line",ai "column",ai "mark"]):=
 cL hK (name:=(ai "__init__")) (qual:=(ai "SimpleKey.__init__")) (cl:=[]) (doc:=.none) (pm:=(.str (ai "yaml.scanner") 941)) (cdv:=(.ref 526)) (ct:=.none) (by kernel_rfl) (by kernel_rfl) (by kernel_rfl) λv=>by kernel_rfl
theorem OC:b4 W 550 (aU (bh "Scanner" "__init__")) (bP (bh "Scanner" "__init__")) (bN [ai "self",ai "stream"]):=
 cL hK (name:=(ai "__init__")) (qual:=(ai "Scanner.__init__")) (cl:=[((ai "__class__"),538)]) (doc:=.none) (pm:=(.str (ai "yaml.scanner") 941)) (cdv:=(.ref 549)) (ct:=(.ref 543)) (by kernel_rfl) (by kernel_rfl) (by kernel_rfl) λv=>by kernel_rfl
theorem OD:b4 W 573 (aU (bh "Scanner" "get_token")) (bP (bh "Scanner" "get_token")) (bN [ai "self"]):=
 cL hK (name:=(ai "get_token")) (qual:=(ai "Scanner.get_token")) (cl:=[]) (doc:=.none) (pm:=(.str (ai "yaml.scanner") 941)) (cdv:=(.ref 572)) (ct:=.none) (by kernel_rfl) (by kernel_rfl) (by kernel_rfl) λv=>by kernel_rfl
theorem OE:b4 W 580 (aU (bh "Scanner" "need_more_tokens")) (bP (bh "Scanner" "need_more_tokens")) (bN [ai "self"]):=
 cL hK (name:=(ai "need_more_tokens")) (qual:=(ai "Scanner.need_more_tokens")) (cl:=[]) (doc:=.none) (pm:=(.str (ai "yaml.scanner") 941)) (cdv:=(.ref 579)) (ct:=.none) (by kernel_rfl) (by kernel_rfl) (by kernel_rfl) λv=>by kernel_rfl
theorem OG:b4 W 587 (aU (bh "Scanner" "fetch_more_tokens")) (bP (bh "Scanner" "fetch_more_tokens")) (bN [ai "self"]):=
 cL hK (name:=(ai "fetch_more_tokens")) (qual:=(ai "Scanner.fetch_more_tokens")) (cl:=[]) (doc:=.none) (pm:=(.str (ai "yaml.scanner") 941)) (cdv:=(.ref 586)) (ct:=.none) (by kernel_rfl) (by kernel_rfl) (by kernel_rfl) λv=>by kernel_rfl
theorem OH:b4 W 594 (aU (bh "Scanner" "next_possible_simple_key")) (bP (bh "Scanner" "next_possible_simple_key")) (bN [ai "self"]):=
 cL hK (name:=(ai "next_possible_simple_key")) (qual:=(ai "Scanner.next_possible_simple_key")) (cl:=[]) (doc:=.none) (pm:=(.str (ai "yaml.scanner") 941)) (cdv:=(.ref 593)) (ct:=.none) (by kernel_rfl) (by kernel_rfl) (by kernel_rfl) λv=>by kernel_rfl
theorem OI:b4 W 601 (aU (bh "Scanner" "stale_possible_simple_keys")) (bP (bh "Scanner" "stale_possible_simple_keys")) (bN [ai "self"]):=
 cL hK (name:=(ai "stale_possible_simple_keys")) (qual:=(ai "Scanner.stale_possible_simple_keys")) (cl:=[]) (doc:=.none) (pm:=(.str (ai "yaml.scanner") 941)) (cdv:=(.ref 600)) (ct:=.none) (by kernel_rfl) (by kernel_rfl) (by kernel_rfl) λv=>by kernel_rfl
theorem OJ:b4 W 608 (aU (bh "Scanner" "save_possible_simple_key")) (bP (bh "Scanner" "save_possible_simple_key")) (bN [ai "self"]):=
 cL hK (name:=(ai "save_possible_simple_key")) (qual:=(ai "Scanner.save_possible_simple_key")) (cl:=[]) (doc:=.none) (pm:=(.str (ai "yaml.scanner") 941)) (cdv:=(.ref 607)) (ct:=.none) (by kernel_rfl) (by kernel_rfl) (by kernel_rfl) λv=>by kernel_rfl
theorem OK:b4 W 615 (aU (bh "Scanner" "remove_possible_simple_key")) (bP (bh "Scanner" "remove_possible_simple_key")) (bN [ai "self"]):=
 cL hK (name:=(ai "remove_possible_simple_key")) (qual:=(ai "Scanner.remove_possible_simple_key")) (cl:=[]) (doc:=.none) (pm:=(.str (ai "yaml.scanner") 941)) (cdv:=(.ref 614)) (ct:=.none) (by kernel_rfl) (by kernel_rfl) (by kernel_rfl) λv=>by kernel_rfl
theorem OL:b4 W 622 (aU (bh "Scanner" "unwind_indent")) (bP (bh "Scanner" "unwind_indent")) (bN [ai "self",ai "column"]):=
 cL hK (name:=(ai "unwind_indent")) (qual:=(ai "Scanner.unwind_indent")) (cl:=[]) (doc:=.none) (pm:=(.str (ai "yaml.scanner") 941)) (cdv:=(.ref 621)) (ct:=.none) (by kernel_rfl) (by kernel_rfl) (by kernel_rfl) λv=>by kernel_rfl
theorem OM:b4 W 629 (aU (bh "Scanner" "add_indent")) (bP (bh "Scanner" "add_indent")) (bN [ai "self",ai "column"]):=
 cL hK (name:=(ai "add_indent")) (qual:=(ai "Scanner.add_indent")) (cl:=[]) (doc:=.none) (pm:=(.str (ai "yaml.scanner") 941)) (cdv:=(.ref 628)) (ct:=.none) (by kernel_rfl) (by kernel_rfl) (by kernel_rfl) λv=>by kernel_rfl
theorem ON:b4 W 636 (aU (bh "Scanner" "fetch_stream_start")) (bP (bh "Scanner" "fetch_stream_start")) (bN [ai "self"]):=
 cL hK (name:=(ai "fetch_stream_start")) (qual:=(ai "Scanner.fetch_stream_start")) (cl:=[]) (doc:=.none) (pm:=(.str (ai "yaml.scanner") 941)) (cdv:=(.ref 635)) (ct:=.none) (by kernel_rfl) (by kernel_rfl) (by kernel_rfl) λv=>by kernel_rfl
theorem OO:b4 W 643 (aU (bh "Scanner" "fetch_stream_end")) (bP (bh "Scanner" "fetch_stream_end")) (bN [ai "self"]):=
 cL hK (name:=(ai "fetch_stream_end")) (qual:=(ai "Scanner.fetch_stream_end")) (cl:=[]) (doc:=.none) (pm:=(.str (ai "yaml.scanner") 941)) (cdv:=(.ref 642)) (ct:=.none) (by kernel_rfl) (by kernel_rfl) (by kernel_rfl) λv=>by kernel_rfl
theorem OP:b4 W 727 (aU (bh "Scanner" "fetch_block_entry")) (bP (bh "Scanner" "fetch_block_entry")) (bN [ai "self"]):=
 cL hK (name:=(ai "fetch_block_entry")) (qual:=(ai "Scanner.fetch_block_entry")) (cl:=[]) (doc:=.none) (pm:=(.str (ai "yaml.scanner") 941)) (cdv:=(.ref 726)) (ct:=.none) (by kernel_rfl) (by kernel_rfl) (by kernel_rfl) λv=>by kernel_rfl
theorem OQ:b4 W 790 (aU (bh "Scanner" "fetch_single")) (bP (bh "Scanner" "fetch_single")) (bN [ai "self"]):=
 cL hK (name:=(ai "fetch_single")) (qual:=(ai "Scanner.fetch_single")) (cl:=[]) (doc:=.none) (pm:=(.str (ai "yaml.scanner") 941)) (cdv:=(.ref 789)) (ct:=.none) (by kernel_rfl) (by kernel_rfl) (by kernel_rfl) λv=>by kernel_rfl
theorem OR:b4 W 797 (aU (bh "Scanner" "fetch_double")) (bP (bh "Scanner" "fetch_double")) (bN [ai "self"]):=
 cL hK (name:=(ai "fetch_double")) (qual:=(ai "Scanner.fetch_double")) (cl:=[]) (doc:=.none) (pm:=(.str (ai "yaml.scanner") 941)) (cdv:=(.ref 796)) (ct:=.none) (by kernel_rfl) (by kernel_rfl) (by kernel_rfl) λv=>by kernel_rfl
theorem aeu:b4 W 804 (aU (bh "Scanner" "fetch_flow_scalar")) (bP (bh "Scanner" "fetch_flow_scalar")) (bN [ai "self",ai "style"]):=
 cL hK (name:=(ai "fetch_flow_scalar")) (qual:=(ai "Scanner.fetch_flow_scalar")) (cl:=[]) (doc:=.none) (pm:=(.str (ai "yaml.scanner") 941)) (cdv:=(.ref 803)) (ct:=.none) (by kernel_rfl) (by kernel_rfl) (by kernel_rfl) λv=>by kernel_rfl
theorem OT:b4 W 825 (aU (bh "Scanner" "check_document_start")) (bP (bh "Scanner" "check_document_start")) (bN [ai "self"]):=
 cL hK (name:=(ai "check_document_start")) (qual:=(ai "Scanner.check_document_start")) (cl:=[]) (doc:=.none) (pm:=(.str (ai "yaml.scanner") 941)) (cdv:=(.ref 824)) (ct:=.none) (by kernel_rfl) (by kernel_rfl) (by kernel_rfl) λv=>by kernel_rfl
theorem OU:b4 W 839 (aU (bh "Scanner" "check_block_entry")) (bP (bh "Scanner" "check_block_entry")) (bN [ai "self"]):=
 cL hK (name:=(ai "check_block_entry")) (qual:=(ai "Scanner.check_block_entry")) (cl:=[]) (doc:=.none) (pm:=(.str (ai "yaml.scanner") 941)) (cdv:=(.ref 838)) (ct:=.none) (by kernel_rfl) (by kernel_rfl) (by kernel_rfl) λv=>by kernel_rfl
theorem OW:b4 W 867 (aU (bh "Scanner" "scan_to_next_token")) (bP (bh "Scanner" "scan_to_next_token")) (bN [ai "self"]):=
 cL hK (name:=(ai "scan_to_next_token")) (qual:=(ai "Scanner.scan_to_next_token")) (cl:=[]) (doc:=.none) (pm:=(.str (ai "yaml.scanner") 941)) (cdv:=(.ref 866)) (ct:=.none) (by kernel_rfl) (by kernel_rfl) (by kernel_rfl) λv=>by kernel_rfl
theorem OX:b4 W 979 (aU (bh "Scanner" "scan_flow_scalar")) (bP (bh "Scanner" "scan_flow_scalar")) (bN [ai "self",ai "style"]):=
 cL hK (name:=(ai "scan_flow_scalar")) (qual:=(ai "Scanner.scan_flow_scalar")) (cl:=[]) (doc:=.none) (pm:=(.str (ai "yaml.scanner") 941)) (cdv:=(.ref 978)) (ct:=.none) (by kernel_rfl) (by kernel_rfl) (by kernel_rfl) λv=>by kernel_rfl
theorem OY:b4 W 989 (aU (bh "Scanner" "scan_flow_scalar_non_spaces")) (bP (bh "Scanner" "scan_flow_scalar_non_spaces")) (bN [ai "self",ai "double",ai "start_mark"]):=
 cL hK (name:=(ai "scan_flow_scalar_non_spaces")) (qual:=(ai "Scanner.scan_flow_scalar_non_spaces")) (cl:=[]) (doc:=.none) (pm:=(.str (ai "yaml.scanner") 941)) (cdv:=(.ref 988)) (ct:=.none) (by kernel_rfl) (by kernel_rfl) (by kernel_rfl) λv=>by kernel_rfl
theorem OZ:b4 W 996 (aU (bh "Scanner" "scan_flow_scalar_spaces")) (bP (bh "Scanner" "scan_flow_scalar_spaces")) (bN [ai "self",ai "double",ai "start_mark"]):=
 cL hK (name:=(ai "scan_flow_scalar_spaces")) (qual:=(ai "Scanner.scan_flow_scalar_spaces")) (cl:=[]) (doc:=.none) (pm:=(.str (ai "yaml.scanner") 941)) (cdv:=(.ref 995)) (ct:=.none) (by kernel_rfl) (by kernel_rfl) (by kernel_rfl) λv=>by kernel_rfl
theorem N6:b4 W 1003 (aU (bh "Scanner" "scan_flow_scalar_breaks")) (bP (bh "Scanner" "scan_flow_scalar_breaks")) (bN [ai "self",ai "double",ai "start_mark"]):=
 cL hK (name:=(ai "scan_flow_scalar_breaks")) (qual:=(ai "Scanner.scan_flow_scalar_breaks")) (cl:=[]) (doc:=.none) (pm:=(.str (ai "yaml.scanner") 941)) (cdv:=(.ref 1002)) (ct:=.none) (by kernel_rfl) (by kernel_rfl) (by kernel_rfl) λv=>by kernel_rfl
theorem N7:b4 W 1045 (aU (bh "Scanner" "scan_line_break")) (bP (bh "Scanner" "scan_line_break")) (bN [ai "self"]):=
 cL hK (name:=(ai "scan_line_break")) (qual:=(ai "Scanner.scan_line_break")) (cl:=[]) (doc:=.none) (pm:=(.str (ai "yaml.scanner") 941)) (cdv:=(.ref 1044)) (ct:=.none) (by kernel_rfl) (by kernel_rfl) (by kernel_rfl) λv=>by kernel_rfl
theorem N9:b4 W 1058 (aU (cS "_law_BLANKS")) (bP (cS "_law_BLANKS")) (bN []):=
 cL hK (name:=(ai "_law_BLANKS")) (qual:=(ai "_law_BLANKS")) (cl:=[]) (doc:=.none) (pm:=(.str (ai "law_im0049_01") 1754)) (cdv:=(.ref 1057)) (ct:=.none) (by kernel_rfl) (by kernel_rfl) (by kernel_rfl) λv=>by kernel_rfl
theorem N_:b4 W 1065 (aU (cS "_law_ENDS")) (bP (cS "_law_ENDS")) (bN []):=
 cL hK (name:=(ai "_law_ENDS")) (qual:=(ai "_law_ENDS")) (cl:=[]) (doc:=.none) (pm:=(.str (ai "law_im0049_01") 1754)) (cdv:=(.ref 1064)) (ct:=.none) (by kernel_rfl) (by kernel_rfl) (by kernel_rfl) λv=>by kernel_rfl
theorem Oa:b4 W 1072 (aU (cS "_law_ESCAPES")) (bP (cS "_law_ESCAPES")) (bN []):=
 cL hK (name:=(ai "_law_ESCAPES")) (qual:=(ai "_law_ESCAPES")) (cl:=[]) (doc:=.none) (pm:=(.str (ai "law_im0049_01") 1754)) (cdv:=(.ref 1071)) (ct:=.none) (by kernel_rfl) (by kernel_rfl) (by kernel_rfl) λv=>by kernel_rfl
theorem Oc:b4 W 1079 (aU (cS "_law_SINGLE")) (bP (cS "_law_SINGLE")) (bN []):=
 cL hK (name:=(ai "_law_SINGLE")) (qual:=(ai "_law_SINGLE")) (cl:=[]) (doc:=.none) (pm:=(.str (ai "law_im0049_01") 1754)) (cdv:=(.ref 1078)) (ct:=.none) (by kernel_rfl) (by kernel_rfl) (by kernel_rfl) λv=>by kernel_rfl
theorem Od:b4 W 1086 (aU (cS "_law_FAULTS")) (bP (cS "_law_FAULTS")) (bN []):=
 cL hK (name:=(ai "_law_FAULTS")) (qual:=(ai "_law_FAULTS")) (cl:=[]) (doc:=.none) (pm:=(.str (ai "law_im0049_01") 1754)) (cdv:=(.ref 1085)) (ct:=.none) (by kernel_rfl) (by kernel_rfl) (by kernel_rfl) λv=>by kernel_rfl
theorem Og:b4 W 1093 (aU (cS "_law_MARKS")) (bP (cS "_law_MARKS")) (bN []):=
 cL hK (name:=(ai "_law_MARKS")) (qual:=(ai "_law_MARKS")) (cl:=[]) (doc:=.none) (pm:=(.str (ai "law_im0049_01") 1754)) (cdv:=(.ref 1092)) (ct:=.none) (by kernel_rfl) (by kernel_rfl) (by kernel_rfl) λv=>by kernel_rfl
theorem Gi:b4 W 1100 (aU (cS "_law_BETWEEN")) (bP (cS "_law_BETWEEN")) (bN []):=
 cL hK (name:=(ai "_law_BETWEEN")) (qual:=(ai "_law_BETWEEN")) (cl:=[]) (doc:=.none) (pm:=(.str (ai "law_im0049_01") 1754)) (cdv:=(.ref 1099)) (ct:=.none) (by kernel_rfl) (by kernel_rfl) (by kernel_rfl) λv=>by kernel_rfl
theorem Oh:b4 W 1107 (aU (cS "_law_piece")) (bP (cS "_law_piece")) (bN [ai "n",ai "double"]):=
 cL hK (name:=(ai "_law_piece")) (qual:=(ai "_law_piece")) (cl:=[]) (doc:=.none) (pm:=(.str (ai "law_im0049_01") 1754)) (cdv:=(.ref 1106)) (ct:=.none) (by kernel_rfl) (by kernel_rfl) (by kernel_rfl) λv=>by kernel_rfl
theorem Oi:b4 W 1114 (aU (cS "_law_fold")) (bP (cS "_law_fold")) (bN [ai "ends"]):=
 cL hK (name:=(ai "_law_fold")) (qual:=(ai "_law_fold")) (cl:=[]) (doc:=.none) (pm:=(.str (ai "law_im0049_01") 1754)) (cdv:=(.ref 1113)) (ct:=.none) (by kernel_rfl) (by kernel_rfl) (by kernel_rfl) λv=>by kernel_rfl
theorem Oj:b4 W 1121 (aU (cS "_law_read")) (bP (cS "_law_read")) (bN [ai "row",ai "text"]):=
 cL hK (name:=(ai "_law_read")) (qual:=(ai "_law_read")) (cl:=[]) (doc:=.none) (pm:=(.str (ai "law_im0049_01") 1754)) (cdv:=(.ref 1120)) (ct:=.none) (by kernel_rfl) (by kernel_rfl) (by kernel_rfl) λv=>by kernel_rfl
theorem Ol:b4 W 1128 (aU (cS "_law_place")) (bP (cS "_law_place")) (bN [ai "mark"]):=
 cL hK (name:=(ai "_law_place")) (qual:=(ai "_law_place")) (cl:=[]) (doc:=.none) (pm:=(.str (ai "law_im0049_01") 1754)) (cdv:=(.ref 1127)) (ct:=.none) (by kernel_rfl) (by kernel_rfl) (by kernel_rfl) λv=>by kernel_rfl
theorem aes:b4 W 1133 (aU (cS "law")) (bP (cS "law")) (bN [ai "script"]):=
 cL hK (name:=(ai "law")) (qual:=(ai "law")) (cl:=[]) (doc:=.none) (pm:=(.str (ai "law_im0049_01") 1754)) (cdv:=(.ref 1132)) (ct:=.none) (by kernel_rfl) (by kernel_rfl) (by kernel_rfl) λv=>by kernel_rfl
end
noncomputable def nq(q:Str)(as:List Str)(dV kV:ao):FuncData:={name:=q,qualname:=q,params:=⟨[],as.map λn=>⟨n,bg,⟨0,0,0,0⟩⟩,bg,[],[],bg,[]⟩,body:=.stmts [],scope:=pw.main.scope,globals:=0,closure:=[],defaults:=dV,kwdefaults:=kV}
theorem mJ{fd fd' :FuncData}{args:Args}{s:ay}{binds:List (Str×ao)}(e:bindArgs fd args=bindArgs fd' args)(h:BindsTo s fd' args binds):BindsTo s fd args binds:=λM A E Q hq=>by rw[e];exact h M A E Q hq
noncomputable def uL(b b' :fc):fc:=λargs aE=>oe (b args aE) ag (b' args aE)
theorem Bq{b b' :fc}{args:List V}{aE loc:List (Str×V)}{P:Prop}(h:uL b b' args aE=ag loc)(k:b args aE=ag loc→P)(k' :b' args aE=ag loc→P):P:=dn h (λx hx h=>k (so h▸hx)) λ_ h=>k' h
section
variable{W:Wd}(hK:W.K=K W.w.params)
include hK
theorem Oq:b4 W 152 (aU (bh "Reader" "peek")) (bP (bh "Reader" "peek")) (uL (gK 1 [] [(ai "self",.a 0),(ai "index",.i 0 390)]) (gK 2 [] [(ai "self",.a 0),(ai "index",.a 1)])):=
 pG (src:=[(ai "self",.a 0),(ai "index",.a 1)]) (params:=jl (bh "Reader" "peek")) (name:=ai "peek") (qual:=ai "Reader.peek") (cl:=[]) (doc:=.none) (pm:=(.str (ai "yaml.reader") 321)) (cdv:=(.ref 151)) (ct:=.none) (oc:=.type "function") (dV:=(.ref 145)) (kV:=.none) (an:=bg) (od:=bg) (osl:=#[]) (fi hK (by kernel_rfl)) (by rw[hK];kernel_rfl) (by kernel_rfl) λ_ _ _ _ h=>Bq h (λh=>j_ (by kernel_rfl) (λv s hs=>mJ (fd' :=nq (ai "Reader.peek") [ai "self",ai "index"] (.ref 145) .none) (by kernel_rfl) (nJ (o:=l7 [.int 0 390]) rfl (hs _ _ (fi hK (by kernel_rfl))) rfl rfl rfl)) h) λh=>j_ (by kernel_rfl) (λv s hs=>mJ (fd' :=nq (ai "Reader.peek") [ai "self",ai "index"] (.ref 145) .none) (by kernel_rfl) (nJ (o:=l7 [.int 0 390]) rfl (hs _ _ (fi hK (by kernel_rfl))) rfl rfl rfl)) h
theorem Ot:b4 W 160 (aU (bh "Reader" "prefix")) (bP (bh "Reader" "prefix")) (uL (gK 1 [] [(ai "self",.a 0),(ai "length",.i 1 399)]) (gK 2 [] [(ai "self",.a 0),(ai "length",.a 1)])):=
 pG (src:=[(ai "self",.a 0),(ai "length",.a 1)]) (params:=jl (bh "Reader" "prefix")) (name:=ai "prefix") (qual:=ai "Reader.prefix") (cl:=[]) (doc:=.none) (pm:=(.str (ai "yaml.reader") 321)) (cdv:=(.ref 159)) (ct:=.none) (oc:=.type "function") (dV:=(.ref 153)) (kV:=.none) (an:=bg) (od:=bg) (osl:=#[]) (fi hK (by kernel_rfl)) (by rw[hK];kernel_rfl) (by kernel_rfl) λ_ _ _ _ h=>Bq h (λh=>j_ (by kernel_rfl) (λv s hs=>mJ (fd' :=nq (ai "Reader.prefix") [ai "self",ai "length"] (.ref 153) .none) (by kernel_rfl) (nJ (o:=l7 [.int 1 399]) rfl (hs _ _ (fi hK (by kernel_rfl))) rfl rfl rfl)) h) λh=>j_ (by kernel_rfl) (λv s hs=>mJ (fd' :=nq (ai "Reader.prefix") [ai "self",ai "length"] (.ref 153) .none) (by kernel_rfl) (nJ (o:=l7 [.int 1 399]) rfl (hs _ _ (fi hK (by kernel_rfl))) rfl rfl rfl)) h
theorem Ou:b4 W 168 (aU (bh "Reader" "forward")) (bP (bh "Reader" "forward")) (uL (gK 1 [] [(ai "self",.a 0),(ai "length",.i 1 408)]) (gK 2 [] [(ai "self",.a 0),(ai "length",.a 1)])):=
 pG (src:=[(ai "self",.a 0),(ai "length",.a 1)]) (params:=jl (bh "Reader" "forward")) (name:=ai "forward") (qual:=ai "Reader.forward") (cl:=[]) (doc:=.none) (pm:=(.str (ai "yaml.reader") 321)) (cdv:=(.ref 167)) (ct:=.none) (oc:=.type "function") (dV:=(.ref 161)) (kV:=.none) (an:=bg) (od:=bg) (osl:=#[]) (fi hK (by kernel_rfl)) (by rw[hK];kernel_rfl) (by kernel_rfl) λ_ _ _ _ h=>Bq h (λh=>j_ (by kernel_rfl) (λv s hs=>mJ (fd' :=nq (ai "Reader.forward") [ai "self",ai "length"] (.ref 161) .none) (by kernel_rfl) (nJ (o:=l7 [.int 1 408]) rfl (hs _ _ (fi hK (by kernel_rfl))) rfl rfl rfl)) h) λh=>j_ (by kernel_rfl) (λv s hs=>mJ (fd' :=nq (ai "Reader.forward") [ai "self",ai "length"] (.ref 161) .none) (by kernel_rfl) (nJ (o:=l7 [.int 1 408]) rfl (hs _ _ (fi hK (by kernel_rfl))) rfl rfl rfl)) h
theorem OA:b4 W 496 (aU (bh "ScalarToken" "__init__")) (bP (bh "ScalarToken" "__init__")) (gK 6 [] [(ai "self",.a 0),(ai "value",.a 1),(ai "plain",.a 2),(ai "start_mark",.a 3),(ai "end_mark",.a 4),(ai "style",.a 5)]):=
 pG (src:=[(ai "self",.a 0),(ai "value",.a 1),(ai "plain",.a 2),(ai "start_mark",.a 3),(ai "end_mark",.a 4),(ai "style",.a 5)]) (params:=jl (bh "ScalarToken" "__init__")) (name:=ai "__init__") (qual:=ai "ScalarToken.__init__") (cl:=[]) (doc:=.none) (pm:=(.str (ai "yaml.tokens") 464)) (cdv:=(.ref 495)) (ct:=.none) (oc:=.type "function") (dV:=(.ref 489)) (kV:=.none) (an:=bg) (od:=bg) (osl:=#[]) (fi hK (by kernel_rfl)) (by rw[hK];kernel_rfl) (by kernel_rfl) λ_ _ _ _ h=>j_ (by kernel_rfl) (λv s hs=>mJ (fd' :=nq (ai "ScalarToken.__init__") [ai "self",ai "value",ai "plain",ai "start_mark",ai "end_mark",ai "style"] (.ref 489) .none) (by kernel_rfl) (nJ (o:=l7 [.none]) rfl (hs _ _ (fi hK (by kernel_rfl))) rfl rfl rfl)) h
theorem Oy:b4 W 275 (aU (bh "StreamStartToken" "__init__")) (bP (bh "StreamStartToken" "__init__")) (gK 3 [ai "encoding"] [(ai "self",.a 0),(ai "start_mark",.a 1),(ai "end_mark",.a 2),(ai "encoding",.a 3)]):=
 pG (src:=[(ai "self",.a 0),(ai "start_mark",.a 1),(ai "end_mark",.a 2),(ai "encoding",.a 3)]) (params:=jl (bh "StreamStartToken" "__init__")) (name:=ai "__init__") (qual:=ai "StreamStartToken.__init__") (cl:=[]) (doc:=.none) (pm:=(.str (ai "yaml.tokens") 464)) (cdv:=(.ref 274)) (ct:=.none) (oc:=.type "function") (dV:=(.ref 268)) (kV:=.none) (an:=bg) (od:=bg) (osl:=#[]) (fi hK (by kernel_rfl)) (by rw[hK];kernel_rfl) (by kernel_rfl) λ_ _ _ _ h=>j_ (by kernel_rfl) (λv s hs=>mJ (fd' :=nq (ai "StreamStartToken.__init__") [ai "self",ai "start_mark",ai "end_mark",ai "encoding"] (.ref 268) .none) (by kernel_rfl) (nJ (o:=l7 [.none,.none,.none]) rfl (hs _ _ (fi hK (by kernel_rfl))) rfl rfl rfl)) h
theorem OV:b4 W 85 (aU (bh "MarkedYAMLError" "__init__")) (bP (bh "MarkedYAMLError" "__init__")) (gK 5 [] [(ai "self",.a 0),(ai "context",.a 1),(ai "context_mark",.a 2),(ai "problem",.a 3),(ai "problem_mark",.a 4),(ai "note",.n)]):=
 pG (src:=[(ai "self",.a 0),(ai "context",.a 1),(ai "context_mark",.a 2),(ai "problem",.a 3),(ai "problem_mark",.a 4),(ai "note",.a 5)]) (params:=jl (bh "MarkedYAMLError" "__init__")) (name:=ai "__init__") (qual:=ai "MarkedYAMLError.__init__") (cl:=[]) (doc:=.none) (pm:=(.str (ai "yaml.error") 194)) (cdv:=(.ref 84)) (ct:=.none) (oc:=.type "function") (dV:=(.ref 78)) (kV:=.none) (an:=bg) (od:=bg) (osl:=#[]) (fi hK (by kernel_rfl)) (by rw[hK];kernel_rfl) (by kernel_rfl) λ_ _ _ _ h=>j_ (by kernel_rfl) (λv s hs=>mJ (fd' :=nq (ai "MarkedYAMLError.__init__") [ai "self",ai "context",ai "context_mark",ai "problem",ai "problem_mark",ai "note"] (.ref 78) .none) (by kernel_rfl) (nJ (o:=l7 [.none,.none,.none,.none,.none]) rfl (hs _ _ (fi hK (by kernel_rfl))) rfl rfl rfl)) h
theorem OS:b4 W 804 (aU (bh "Scanner" "fetch_flow_scalar")) (bP (bh "Scanner" "fetch_flow_scalar")) (gK 1 [ai "style"] [(ai "self",.a 0),(ai "style",.a 1)]):=
 pG (src:=[(ai "self",.a 0),(ai "style",.a 1)]) (params:=jl (bh "Scanner" "fetch_flow_scalar")) (name:=ai "fetch_flow_scalar") (qual:=ai "Scanner.fetch_flow_scalar") (cl:=[]) (doc:=.none) (pm:=(.str (ai "yaml.scanner") 941)) (cdv:=(.ref 803)) (ct:=.none) (oc:=.type "function") (dV:=.none) (kV:=.none) (an:=bg) (od:=bg) (osl:=#[]) (fi hK (by kernel_rfl)) (by rw[hK];kernel_rfl) (by kernel_rfl) λ_ _ _ _ h=>j_ (by kernel_rfl) (λv s _=>zJ (by kernel_rfl)) h
end
noncomputable def DI(s:aG)(x:Str):Option NameKind:=aV x (bP s).names
inductive Lit where
 |s (l:List Nat) (t:Tok)|i (k:Int) (t:Tok)
noncomputable def Lit.y(l:Lit):V:=Lit.casesOn l (λs _=> .str s) λk _=> .int k
noncomputable def Lit.v(l:Lit):ao:=Lit.casesOn l (λs t=> .str ⟨s.toArray⟩ t) λk t=> .int k t
noncomputable def Lit.ok(l:Lit):Bool:=Lit.casesOn l (λs _=>aJ s.length 16777216) λ_ _=>ae
abbrev c9:=List (Str×Tok×Lit)
noncomputable def c9.y(l:c9):List (Str×V):=l.map λp=>(p.1,p.2.2.y)
noncomputable def c9.es(P:Z6)(l:c9):List DictEntry:=l.map λp=>⟨ml P p.1,.str p.1 p.2.1,p.2.2.v⟩
section
variable{W:Wd}{fz:Cells}{x:aQ}
theorem Lit.rel{l:Lit}(h:l.ok=ae):VR W fz x l.y l.v:=by
 cases l with
 |s l t=>exact cj.mk (bw h) t
 |i k t=>exact bL.mk t
theorem c9.rel:∀{l:c9},(l.all λp=>p.2.2.ok)=ae→gc W fz x l.y (l.es W.w.params)
 | [],_=>rfl
 |p::r,h=> .mk _ _ ⟨⟨rfl,_,rfl⟩,Lit.rel (aF h).1⟩ (c9.rel (aF h).2)
theorem Gz.rel:∀{l:List Lit},(l.all Lit.ok)=ae→aS W fz x (l.map Lit.y) (l.map Lit.v)
 | [],_=>rfl
 |p::r,h=> .mk _ _ (Lit.rel (aF h).1) (Gz.rel (aF h).2)
end
noncomputable def eH:c9:=[((ai "0"),1561,.s [0] 1562),((ai "a"),1564,.s [7] 1565),((ai "b"),1567,.s [8] 1568),((ai "t"),1570,.s [9] 1571),(⟨#[9]⟩,1573,.s [9] 1574),((ai "n"),1576,.s [10] 1577),((ai "v"),1579,.s [11] 1580),((ai "f"),1582,.s [12] 1583),((ai "r"),1585,.s [13] 1586),((ai "e"),1588,.s [27] 1589),((ai " "),1591,.s [32] 1592),((ai "\""),1594,.s [34] 1595),((ai "\\"),1597,.s [92] 1598),((ai "/"),1600,.s [47] 1601),((ai "N"),1603,.s [133] 1604),((ai "_"),1606,.s [160] 1607),((ai "L"),1609,.s [8232] 1610),((ai "P"),1612,.s [8233] 1613)]
noncomputable def eW:c9:=[((ai "x"),1616,.i 2 1617),((ai "u"),1618,.i 4 1619),((ai "U"),1620,.i 8 1621)]
noncomputable def FZ:List Lit:=[.s [97] 1756,.s [98,99] 1757,.s [45,45,45] 1758,.s [46,46,46] 1759,.s [233] 1760,.s [128512] 1761,.s [65279] 1762,.s [35,58] 1763]
noncomputable def JD:List (aQ×Lit):=[(278,.s [60,115,116,114,101,97,109,32,115,116,97,114,116,62] 578),(290,.s [60,115,116,114,101,97,109,32,101,110,100,62] 609),(302,.s [60,98,108,111,99,107,32,115,101,113,117,101,110,99,101,32,115,116,97,114,116,62] 627),(326,.s [60,98,108,111,99,107,32,101,110,100,62] 663),(410,.s [45] 789),(499,.s [60,115,99,97,108,97,114,62] 918)]
noncomputable def MG:List (aQ×Str×aQ):=[(1048,ai "update",189),(1048,ai "peek",152),(1048,ai "prefix",160),(1048,ai "forward",168),(1048,ai "get_mark",175),(1048,ai "check_printable",182),(1048,ai "get_token",573),(1048,ai "need_more_tokens",580),(1048,ai "fetch_more_tokens",587),(1048,ai "next_possible_simple_key",594),(1048,ai "stale_possible_simple_keys",601),(1048,ai "save_possible_simple_key",608),(1048,ai "remove_possible_simple_key",615),(1048,ai "unwind_indent",622),(1048,ai "add_indent",629),(1048,ai "fetch_stream_start",636),(1048,ai "fetch_stream_end",643),(1048,ai "fetch_block_entry",727),(1048,ai "fetch_single",790),(1048,ai "fetch_double",797),(1048,ai "fetch_flow_scalar",804),(1048,ai "check_document_start",825),(1048,ai "check_block_entry",839),(1048,ai "scan_to_next_token",867),(1048,ai "scan_flow_scalar",979),(1048,ai "scan_flow_scalar_non_spaces",989),(1048,ai "scan_flow_scalar_spaces",996),(1048,ai "scan_flow_scalar_breaks",1003),(1048,ai "scan_line_break",1045)]
noncomputable def gS:List (Str×aQ):=[(ai "Mark",53),(ai "SimpleKey",530),(ai "ScannerError",511),(ai "StreamStartToken",278),(ai "StreamEndToken",290),(ai "BlockSequenceStartToken",302),(ai "BlockEndToken",326),(ai "BlockEntryToken",410),(ai "ScalarToken",499),(ai "Scanner",1048),(ai "_is_printable",130),(ai "_law_BLANKS",1058),(ai "_law_ENDS",1065),(ai "_law_ESCAPES",1072),(ai "_law_SINGLE",1079),(ai "_law_FAULTS",1086),(ai "_law_MARKS",1093),(ai "_law_BETWEEN",1100),(ai "_law_piece",1107),(ai "_law_fold",1114),(ai "_law_read",1121),(ai "_law_place",1128)]
noncomputable def gB:List (Str×Bi):=[(ai "len",.len),(ai "isinstance",.Dy),(ai "chr",.chr),(ai "int",.int),(ai "list",.list),(ai "str",.str),(ai "range",.range),(ai "enumerate",.enum),(ai "max",.max)]
noncomputable def US:List (Str×V):=(gS.map λp=>(p.1,.eV (.ref p.2)))++((gB.map λp=>(p.1,.bi p.2))++[(ai "_law_WORDS",.lst (FZ.map Lit.y))])
noncomputable def abL:List (aQ×Str):=nameList.map λn=>(1048,n)
noncomputable def xp:List (aQ×Str):=abL++[(53,ai "name"),(53,ai "index"),(53,ai "line"),(53,ai "column"),(53,ai "buffer"),(53,ai "pointer"),(530,ai "token_number"),(530,ai "required"),(530,ai "index"),(530,ai "line"),(530,ai "column"),(530,ai "mark"),(499,ai "value"),(499,ai "plain"),(499,ai "start_mark"),(499,ai "end_mark"),(499,ai "style"),(278,ai "start_mark"),(278,ai "end_mark"),(290,ai "start_mark"),(290,ai "end_mark"),(302,ai "start_mark"),(302,ai "end_mark"),(326,ai "start_mark"),(326,ai "end_mark"),(410,ai "start_mark"),(410,ai "end_mark"),(278,ai "encoding"),(511,ai "context"),(511,ai "context_mark"),(511,ai "problem"),(511,ai "problem_mark"),(511,ai "note")]
noncomputable def He:List (aQ×Str×V):=(1048,ai "ESCAPE_REPLACEMENTS",.tab eH.y)::(1048,ai "ESCAPE_CODES",.tab eW.y)::JD.map λp=>(p.1,ai "id",p.2.y)
noncomputable def Jz:List (aQ×aQ×Bool):=[(278,499,af),(290,499,af),(302,499,af),(326,499,af),(410,499,af),(499,499,ae)]
noncomputable def GB(m:aG):aX:={kind:=DI m,jq:=[],attrs:=xp,jI:=[],meths:=[],fns:=[],ctors:=[],loops:=[],insts:=[],g7:=[],calm:=[],quiet:=af,dep:=0}
noncomputable def lg(c:String):aG:=bh c "__init__"
def ta(c:String)(b:fc):Fn:=dO (GB (lg c)) (aU (lg c)) b
abbrev Wi:Fn:=ta "Mark" (bN [ai "self",ai "name",ai "index",ai "line",ai "column",ai "buffer",ai "pointer"])
abbrev Wl:Fn:=ta "SimpleKey" (bN [ai "self",ai "token_number",ai "required",ai "index",ai "line",ai "column",ai "mark"])
abbrev Wj:Fn:=ta "ScalarToken" (gK 6 [] [(ai "self",.a 0),(ai "value",.a 1),(ai "plain",.a 2),(ai "start_mark",.a 3),(ai "end_mark",.a 4),(ai "style",.a 5)])
abbrev Wh:Fn:=ta "StreamStartToken" (gK 3 [ai "encoding"] [(ai "self",.a 0),(ai "start_mark",.a 1),(ai "end_mark",.a 2),(ai "encoding",.a 3)])
abbrev yA:Fn:=ta "Token" (bN [ai "self",ai "start_mark",ai "end_mark"])
noncomputable def BH:List (aQ×aQ×Fn):=[(53,35,Wi),(530,527,Wl),(499,496,Wj),(278,275,Wh),(410,210,yA),(290,210,yA),(326,210,yA),(302,210,yA)]
noncomputable def BR:List Str:=[ai "context",ai "context_mark",ai "problem",ai "problem_mark",ai "note"]
noncomputable def GW(m:aG)(fns:List (aQ×Fn))(loops:List (Nat×Lp))(dep:Nat):aX:={kind:=DI m,jq:=US,attrs:=xp,jI:=He,meths:=MG,fns:=fns,ctors:=BH,loops:=loops,insts:=Jz,g7:=[(511,85,BR)],calm:=[],quiet:=ae,dep:=dep}
section
variable{W:Wd}(hK:W.K=K W.w.params)
include hK
omit hK in
theorem dw{α:Type}{P:α→Prop}:∀q∈([]:List α),P q:=λ_ h=>nomatch h
theorem GX:∀q∈xp,kP W.K q.1 q.2=ae:=by
 rw[hK]
 exact List.all_eq_true.mp (by kernel_rfl:(xp.all λq=>kP (K W.w.params) q.1 q.2)=ae)
theorem Gr{X:bU}(m:aG):cb W X (GB m):=⟨dw,dw,dw,GX hK,dw,dw,dw,dw,dw,dw⟩
omit hK in
theorem tD{X:bU}{G:aX}{l:List aG}(h:l=[]):du W X G l:=by rw[h];exactλ_ h=>nomatch h
theorem vL{f:aQ}{c:String}{b:fc}(D:b4 W f (aU (lg c)) (bP (lg c)) b)(h:cC (aU (lg c))=[]):bH W (FX W) 1 af f (ta c b):=
 Ce (G:=GB (lg c)) D (Gr hK _) rfl (λy=>l9 y _) (tD h) (DM W) (ji W)
theorem UU:∀p∈gS,qd W p.1 (.eV (.ref p.2)):=λp hp=>by
 obtain⟨h1,h2⟩:=aF (List.all_eq_true.mp (by kernel_rfl:(gS.all λp=>nsIn (K W.w.params) mainGlobals p.1==ag (ag (.ref p.2))&&handedIn (.ref p.2))=ae) p hp)
 exact .inl ⟨.ref p.2,by rw[hK];exact beq_iff_eq.mp h1,λx=>⟨rfl,h2⟩⟩
theorem UT:∀p∈gB,qd W p.1 (.bi p.2):=λp hp=>by
 obtain⟨h1,h⟩:=aF (List.all_eq_true.mp (by kernel_rfl:(gB.all λp=>nsIn (K W.w.params) mainGlobals p.1==ag bg&&(bootBuiltins p.1==ag p.2.val&& !(seq p.1 "__name__")))=ae) p hp)
 obtain⟨h2,h3⟩:=aF h
 exact .inr ⟨p.2.val,by rw[hK];exact beq_iff_eq.mp h1,beq_iff_eq.mp h2,λe=>by rw[eN.mpr e]at h3;exact nt h3,λx=>rfl⟩
theorem aeo:qd W (ai "_law_WORDS") (.lst (FZ.map Lit.y)):=
 .inl ⟨.ref 1051,by rw[hK];kernel_rfl,λx=> .mk 1051 (FZ.map Lit.v).toArray 0 (.inr (fi hK (by kernel_rfl))) (Gz.rel (by kernel_rfl))⟩
theorem Nv{C a:aQ}{nm:Str}{l:c9}{n:Nat}(hl:(l.all λp=>p.2.2.ok)=ae)(hz:(a==sysModules)=af)(h:By (K W.w.params) C nm (.ref a)=ae)(ho:(K W.w.params).lookup a=ag (dictOf (l.es W.w.params) n)):xg W C nm (.tab l.y):=
 ⟨.ref a,by rw[hK];exact h,λx=> .mk a _ n (.inr (fi hK ho)) hz (c9.rel hl)⟩
theorem QJ:∀q∈He,xg W q.1 q.2.1 q.2.2:=λq hq=>by
 rcases List.mem_cons.mp hq with rfl|hq
 ·exact Nv hK (a:=980) (n:=18) (by kernel_rfl) (by decide) (by kernel_rfl) (by kernel_rfl)
 ·rcases List.mem_cons.mp hq with rfl|hq
  ·exact Nv hK (a:=982) (n:=3) (by kernel_rfl) (by decide) (by kernel_rfl) (by kernel_rfl)
  ·obtain⟨p,hp,rfl⟩:=List.mem_map.mp hq
   obtain⟨h1,h2⟩:=aF (List.all_eq_true.mp (by kernel_rfl:(JD.all λp=>By (K W.w.params) p.1 (ai "id") p.2.v&&p.2.ok)=ae) p hp)
   exact⟨p.2.v,by rw[hK];exact h1,λx=>Lit.rel h2⟩
end
noncomputable def kb(a b c d:V):List (Str×V):=[(ai "context",a),(ai "context_mark",b),(ai "problem",c),(ai "problem_mark",d),(ai "note",.none)]
noncomputable def Ba(fs:List (Str×V)):FS:=fs.map λp=>(p.1,.v p.2)
noncomputable def b9:Str:=ai "self"
noncomputable def ctx:Str:=ai "context"
noncomputable def DU(a b c d:V):List (Str×V):=(b9,.ak)::kb a b c d
inductive O1(ys:List V)(fs:List (Str×V)):Prop
 |mk (a b c d:V) (e:ys=[a,b,c,d]) (e' :fs=kb a b c d)
theorem Sp{ys:List V}{fs:List (Str×V)}(h:oS BR ys=ag fs):O1 ys fs:=by
 have one:∀{nm n2:Str}{r:List Str}{vs:List V}{l:List (Str×V)},oS (nm::n2::r) vs=ag l→∃y fu l',vs=y::fu∧oS (n2::r) fu=ag l' ∧l=(nm,y)::l' :=λ{nm n2 r vs l} h=>by
  cases vs with
  |nil=>exact no h
  |cons y vs=>exact aD h λl' h' e=>⟨y,vs,l',rfl,h',so e⟩
 obtain⟨a,ys0,l0,e0,h0,f0⟩:=one h
 obtain⟨b,ys1,l1,e1,h1,f1⟩:=one h0
 obtain⟨c,ys2,l2,e2,h2,f2⟩:=one h1
 obtain⟨d,ys3,l3,e3,h3,f3⟩:=one h2
 exact bK (h3:tt (isNil _) (ag [(ai "note",V.none)])=ag _) λhn h=>by
  rw[e0,e1,e2,e3,f0,f1,f2,f3,c_ hn,so h];exact⟨a,b,c,d,rfl,rfl⟩
noncomputable def xS:List aG:=aU (lg "MarkedYAMLError")
noncomputable def b85:fc:=gK 5 [] [(ai "self",.a 0),(ai "context",.a 1),(ai "context_mark",.a 2),(ai "problem",.a 3),(ai "problem_mark",.a 4),(ai "note",.n)]
theorem abq(a b c d:V)(q:R):(q=(.next,⟨eB (DU a b c d),ag (511,Ba (kb a b c d)),af⟩))=aN (GB (lg "MarkedYAMLError")) 60 xS.tail ⟨eB (DU a b c d),ag (511,[(ctx,.v a)]),af⟩ (λo st=>leaf (o,st)) [] q:=by kernel_rfl
theorem Ub{a b c d:V}(h:d6 [a,b,c,d]=ae):frozen (Ba (kb a b c d))=ag (kb a b c d):=by
 obtain⟨h1,h⟩:=aF h
 obtain⟨h2,h⟩:=aF h
 obtain⟨h3,h⟩:=aF h
 obtain⟨h4,h⟩:=aF h
 have e:lA (kb a b c d)=ae:=by
  show(dT a&&(dT b&&(dT c&&(dT d&&ae))))=ae
  rw[h1,h2,h3,h4];rfl
 have e2:frozen (Ba (kb a b c d))=tt (lA (kb a b c d)) (ag (kb a b c d)):=by kernel_rfl
 rw[e2,e];rfl
section
variable{W:Wd}(hK:W.K=K W.w.params)
include hK
theorem Sv:qb W (FX W) 2 511 85 BR:=by
 refine SJ (G:=GB (lg "MarkedYAMLError")) (body:=xS) (s0:=xS.headD (.Pass ⟨0,0,0,0⟩)) (more:=xS.tail) (self:=b9) (n0:=ctx) (v0:=ctx) (by rw[hK];kernel_rfl) (by kernel_rfl) (by kernel_rfl) (OV hK) (Gr hK _) rfl (λy=>l9 y _) (by kernel_rfl) (by rw[hK];kernel_rfl) λys fs hn hf=>?_
 obtain⟨a,b,c,d,rfl,rfl⟩:=Sp hf
 exact⟨DU a b c d,_,_,a,by kernel_rfl,Ub hn,by kernel_rfl,by kernel_rfl,by kernel_rfl,by kernel_rfl,by kernel_rfl,Gv.of [] (abq a b c d _) rfl⟩
omit hK in
theorem qb.mono{X:bU}{D D' :Nat}{C fI:aQ}{ns:List Str}(H:qb W X D C fI ns)(hD:D≤D'):qb W X D' C fI ns:=
 ⟨H.1,λφ x c A m self rest fz s ys vals fs h1 h2 h3=>H.2 φ x c A m self rest fz s ys vals fs h1 h2 ⟨lF (c8 hD _) h3.1,lF (c8 (nH 8 hD) _) h3.2⟩⟩
theorem Rn{D:Nat}(hD:2≤D):∀q∈BH,rh W.K q.1 q.2.1=ae∧0<D∧bH W (FX W) (D -1) ae q.2.1 q.2.2:=λq hq=>by
 have d1:1≤D -1:=Nat.le_sub_of_add_le hD
 refine⟨by rw[hK];exact List.all_eq_true.mp (by kernel_rfl:(BH.all λq=>rh (K W.w.params) q.1 q.2.1)=ae) q hq,Lx (by decide) hD,?_⟩
 have go:∀{f:aQ}{F:Fn},bH W (FX W) 1 af f F→bH W (FX W) (D -1) ae f F:=λH=>H.mono d1 λh=>nt h
 have l0:∀{C:String},cC (aU (lg C))=[]→cC (aU (lg C))=[]:=id
 have yo:=go (vL hK (Ox hK) (by kernel_rfl))
 rcases List.mem_cons.mp hq with rfl|hq
 ·exact go (vL hK (Oz hK) (by kernel_rfl))
 rcases List.mem_cons.mp hq with rfl|hq
 ·exact go (vL hK (OB hK) (by kernel_rfl))
 rcases List.mem_cons.mp hq with rfl|hq
 ·exact go (vL hK (OA hK) (by kernel_rfl))
 rcases List.mem_cons.mp hq with rfl|hq
 ·exact go (vL hK (Oy hK) (by kernel_rfl))
 rcases List.mem_cons.mp hq with rfl|hq
 ·exact yo
 rcases List.mem_cons.mp hq with rfl|hq
 ·exact yo
 rcases List.mem_cons.mp hq with rfl|hq
 ·exact yo
 rcases List.mem_cons.mp hq with rfl|hq
 ·exact yo
 exact nomatch hq
end
def cK(W:Wd)(D:Nat)(fns:List (aQ×Fn)):Prop:=∀q∈fns,keepIn W.K (.ref q.1)=ae∧bH W (FX W) D ae q.1 q.2
noncomputable def Sc.mark(s:Sc):V:=.obj 53 [(ai "name",.str s.nm),(ai "index",.int s.idx),(ai "line",.int s.cI),(ai "column",.int s.col),(ai "buffer",.str s.buf),(ai "pointer",.int s.ptr)]
noncomputable abbrev cg:List V:=[]
noncomputable abbrev oV(x:Option Bool):Option V:=ob x λb=>ag (.bool b)
noncomputable abbrev oB(x:Option Bool):Option Bool:=ob (oV x) V.b?
noncomputable def eU(l:List aG)(i:Nat):aG:=l.getD i (.Pass ⟨0,0,0,0⟩)
noncomputable abbrev ny:aw:=.Name b9 ⟨0,0,0,0⟩
noncomputable def NU(s:aG):Option (aw×List aG):=j4 s.ctorIdx 11 λh=>Stmt.While.elim (motive_2:=λ_=>aw×List aG) s h λt b _ _=>(t,b)
noncomputable def Cq(s:aG):Option (aw×aw×List aG):=j4 s.ctorIdx 9 λh=>Stmt.For.elim (motive_2:=λ_=>aw×aw×List aG) s h λt i b _ _=>(t,i,b)
noncomputable def fK(s:aG):aw:=oe (NU s) (·.1) ny
noncomputable def bS(s:aG):List aG:=oe (NU s) (·.2) (oe (Cq s) (·.2.2) [])
noncomputable def eI(s:aG):aw:=oe (Cq s) (·.1) ny
noncomputable def eX(s:aG):aw:=oe (Cq s) (·.2.1) ny
noncomputable def xF(e:aw):Str:=oe (qq e) (λq=>oe (jx q.1) (·.1) b9) b9
noncomputable def uO(e:aw):Pos:=oe (qq e) (λq=>oe (jx q.1) (·.2) ⟨0,0,0,0⟩) ⟨0,0,0,0⟩
noncomputable def xG(e:aw):Pos:=oe (qq e) (·.2.2.2) ⟨0,0,0,0⟩
noncomputable def uN(e:aw):aw:=oe (qq e) (λq=>q.2.1.headD ny) ny
noncomputable def NA(e:aw):Str:=oe (jx e) (·.1) b9
noncomputable def NB(e:aw):Pos:=oe (jx e) (·.2) ⟨0,0,0,0⟩
noncomputable def aX.loop(G:aX)(l:List (Nat×Lp)):aX:={G with loops:=l}
theorem bY.o6{W:Wd}{X:bU}{G:aX}{l l' :List (Nat×Lp)}{cA:aG}{F:Lp}(H:bY W X (G.loop l) cA F):bY W X (G.loop l') cA F:=λ{st k r} h=>by
 rcases H h with⟨y,st',H,h⟩|⟨y,st',H,h⟩
 ·exact .ok y st' (λκ=>H ⟨κ.x,κ.c,κ.A,κ.hA,κ.quiet,κ.room,κ.top,κ.kind,κ.hd⟩) h
 ·exact .ex y st' (λκ=>H ⟨κ.x,κ.c,κ.A,κ.hA,κ.quiet,κ.room,κ.top,κ.kind,κ.hd⟩) h
section
variable{W:Wd}{D:Nat}{fns:List (aQ×Fn)}
theorem cK.nil:cK W D []:=dw
theorem cK.cons{D' :Nat}{f:aQ}{F:Fn}{b:Bool}(H:cK W D' fns)(hk:keepIn W.K (.ref f)=ae)(h:bH W (FX W) D b f F)(hD:D≤D'):cK W D' ((f,F)::fns):=λq hq=>(List.mem_cons.mp hq).elim (λe=>by rw[e];exact⟨hk,h.mono hD λ_=>rfl⟩) (H q)
theorem cK.mono{D' :Nat}(H:cK W D fns)(hD:D≤D'):cK W D' fns:=λq hq=>⟨(H q hq).1,(H q hq).2.mono hD id⟩
variable(hK:W.K=K W.w.params)
include hK
theorem cE{a:aQ}(h:keepIn (K W.w.params) (.ref a)=ae):keepIn W.K (.ref a)=ae:=by rw[hK];exact h
theorem mD(m:aG)(loops:List (Nat×Lp))(hD:2≤D)(H:cK W D fns):cb W (FX W) (GW m fns loops D)where
 keeps q hq:=(H q hq).1
 ctors:=Rn hK hD
 jq q hq:=by
  rcases List.mem_append.mp hq with hq|hq
  ·obtain⟨p,hp,rfl⟩:=List.mem_map.mp hq;exact UU hK p hp
  rcases List.mem_append.mp hq with hq|hq
  ·obtain⟨p,hp,rfl⟩:=List.mem_map.mp hq;exact UT hK p hp
  ·rw[List.mem_singleton.mp hq];exact aeo hK
 attrs:=GX hK
 meths:=by
  rw[hK]
  exact List.all_eq_true.mp (by kernel_rfl:(MG.all λq=>zi (K W.w.params) q.1 q.2.1 q.2.2)=ae)
 fns q hq:=(H q hq).2
 jI:=QJ hK
 insts:=by
  rw[hK]
  exact List.all_eq_true.mp (by kernel_rfl:(Jz.all λq=>Dv (K W.w.params) q.1 q.2.1 q.2.2)=ae)
 calm:=dw
 g7 q hq:=by
  rw[List.mem_singleton.mp hq]
  exact⟨cE hK (by kernel_rfl),(Sv hK).mono hD⟩
theorem g9{f:aQ}{m:aG}{bnd:fc}(Dd:b4 W f (aU m) (bP m) bnd){loops:List (Nat×Lp)}(hD:2≤D)(H:cK W D fns)(HL:du W (FX W) (GW m fns loops D) (cC (aU m))):
 bH W (FX W) (D+1) ae f (dO (GW m fns loops D) (aU m) bnd):=
 Ce (G:=GW m fns loops D) Dd (mD hK m loops hD H) rfl (λy=>l9 y _) HL (DM W) (ji W)
theorem vX{m:aG}(hD:2≤D)(H:cK W D fns){loops:List (Nat×Lp)}{test:aw}{body:List aG}{pos:Pos}(HL:du W (FX W) (GW m fns loops D) (cC body))(l' :List (Nat×Lp)):
 bY W (FX W) (GW m fns l' D) (.While test body [] pos) (Az (GW m fns loops D) test body):=λ{st k r} h=>
 bY.o6 (G:=GW m fns [] D) (l:=loops) (l' :=l') (NV (mD hK m loops hD H) (ji W) (rC W) HL) h
end
noncomputable def dB:Str:=ai "length"
noncomputable def fL:Str:=ai "ch"
noncomputable def bD(nm:String)(i:Int)(t:Tok):fc:=uL (gK 1 [] [(ai "self",.a 0),(ai nm,.i i t)]) (gK 2 [] [(ai "self",.a 0),(ai nm,.a 1)])
noncomputable def nO(m:String):aG:=bh "Reader" m
noncomputable def Sc.at(s:Sc)(i:Int):Option Nat:=tt (bO 0 (s.ptr+i)) (tt (ltI (s.ptr+i) s.buf.length) (ag (s.buf.getD (s.ptr+i).toNat 0)))
noncomputable def Sc.cut(s:Sc)(l:Int):List Nat:=(s.buf.take (s.ptr+l).toNat).drop s.ptr.toNat
noncomputable def Sc.pre(s:Sc)(l:Int):Option (List Nat):=tt (bO 0 s.ptr&&bO 0 (s.ptr+l)) (ag (s.cut l))
noncomputable def zU(d:Int)(args:List V):Option Int:=cv args bg λa r=>tt a.pV (cv r (ag d) λy r=>tt (isNil r) y.i?)
noncomputable def G2(m:aG):aX:=GW m [] [] 2
def L4:Fn:=dO (G2 (nO "peek")) (aU (nO "peek")) (bD "index" 0 390)
def L5:Fn:=λargs aE self k=>Tt (isNil aE) (Ob (zU 0 args) λi=>lD self λs=>Ob (s.at i) λc=>k (.ok (.str [c])) (ak s))
def adT:Fn:=dO (G2 (nO "update")) (aU (nO "update")) (bN [ai "self",ai "length"])
def FT:Fn:=λargs aE self k=>Tt (isNil aE) (Ob (two args) λq=>Tt q.1.pV (Ob q.2.i? λ_=>lD self λs=>k (.ok .none) (ak s)))
noncomputable def u_:List (aQ×Fn):=[(189,FT)]
def z5:Fn:=dO (GW (nO "prefix") u_ [] 3) (aU (nO "prefix")) (bD "length" 1 399)
def Me:Fn:=λargs aE self k=>Tt (isNil aE) (Ob (zU 1 args) λi=>lD self λs=>Ob (s.pre i) λt=>k (.ok (.str t)) (ak s))
def Yu:Fn:=dO (G2 (nO "get_mark")) (aU (nO "get_mark")) (bN [ai "self"])
def KI:Fn:=λargs aE self k=>Tt (isNil aE) (Ob (one args) λa=>Tt a.pV (lD self λs=>k (.ok s.mark) (ak s)))
noncomputable def vf:aG:=nO "forward"
noncomputable def yj:aG:=eU (aU vf) 1
def eP:aq→au:=gE (GW vf u_ [] 3) (fK yj) (bS yj)
def Kl(t:aq→au):Lp:=gR t λ_(l:FS)=>l
noncomputable def IT:List (Nat×Lp):=[(yj.pos.line,Kl eP)]
def yi:Fn:=dO (GW vf u_ IT 3) (aU vf) (bD "length" 1 408)
noncomputable def vM(c:Nat):Bool:=[10,133,8232,8233].contains c
noncomputable def Sc.down(s:Sc):Sc:={s with ptr:=s.ptr+1,idx:=s.idx+1,cI:=s.cI+1,col:=0}
noncomputable def Sc.over(s:Sc)(c:Nat):Sc:=br (aB [c] [65279]) {s with ptr:=s.ptr+1,idx:=s.idx+1} {s with ptr:=s.ptr+1,idx:=s.idx+1,col:=s.col+1}
noncomputable def Sc.step(s:Sc):Option Sc:=ob (s.at 0) λc=>br (vM c) (ag s.down) (br (aB [c] [13]) (ob (s.at 1) λd=>br (aB [d] [10]) (ag (s.over c)) (ag s.down)) (ag (s.over c)))
noncomputable def Sc.fwd:Nat→Sc→Option Sc
 |0,s=>ag s
 |n+1,s=>ob s.step λs' =>s'.fwd n
def IJ:Fn:=λargs aE self k=>Tt (isNil aE) (Ob (zU 1 args) λn=>Tt (bO 0 n) (lD self λs=>Ob (s.fwd n.toNat) λs' =>k (.ok .none) (ak s')))
theorem aaN(s:Sc)(i:Int)(k:Res→Self→au)(h1:(bO 0 (s.ptr+i))=ae)(h2:(ltI (s.ptr+i) ↑(s.buf.length))=ae){r:R}(hk:Gv (k (.ok (V.str ([fD s.buf (a9 (s.ptr+i)) 0]))) (ak s)) r):Gv (L4 [.ak,.int i] [] (ak s) k) r:=by
 obtain⟨p,hk⟩:=hk
 exact Gv.of (p) (by kernel_rfl) (aM h1 (aM h2 hk))
theorem aaO(s:Sc)(k:Res→Self→au)(h1:(bO 0 (s.ptr+0))=ae)(h2:(ltI (s.ptr+0) ↑(s.buf.length))=ae){r:R}(hk:Gv (k (.ok (V.str ([fD s.buf (a9 (s.ptr+0)) 0]))) (ak s)) r):Gv (L4 [.ak] [] (ak s) k) r:=by
 obtain⟨p,hk⟩:=hk
 exact Gv.of (p) (by kernel_rfl) (aM h1 (aM h2 hk))
theorem adU(s:Sc)(i:Int)(k:Res→Self→au){r:R}(hk:Gv (k (.ok V.none) (ak s)) r):Gv (adT [.ak,.int i] [] (ak s) k) r:=by
 obtain⟨p,hk⟩:=hk
 exact Gv.of (ae::p) (by kernel_rfl) (aj tT hk)
theorem Yx(s:Sc)(k:Res→Self→au){r:R}(hk:Gv (k (.ok (V.obj 53 [((ai "name"),(V.str s.nm)),((ai "index"),(V.int s.idx)),((ai "line"),(V.int s.cI)),((ai "column"),(V.int s.col)),((ai "buffer"),(V.str s.buf)),((ai "pointer"),(V.int s.ptr))])) (ak s)) r):Gv (Yu [.ak] [] (ak s) k) r:=by
 obtain⟨p,hk⟩:=hk
 exact Gv.of (ae::p) (by kernel_rfl) (aj tT hk)
theorem aa1(s:Sc)(l:Int)(k:Res→Self→au){r:R}:∀(h1:(bO (↑(s.buf.length)) (s.ptr+l))=ae)⦃y2⦄(h3:(fy af (V.str s.buf) (ag (V.int s.ptr)) (ag (V.int (s.ptr+l))))=ag y2)(hk:Gv (k (.ok y2) (ak s)) r),Gv (z5 [.ak,.int l] [] (ak s) k) r:=
 Gv.to (E:=λ_=>_∧op _ λ_=>_) (λp=>ae::p) (λ_=>by kernel_rfl) λg h1 y2 h3 hk=>g hk λp hk=>(aj h1 (az h3 hk))
theorem aa2(s:Sc)(l:Int)(k:Res→Self→au){r:R}:∀(h1:(bO (↑(s.buf.length)) (s.ptr+l))=af)⦃y2⦄(h3:(fy af (V.str s.buf) (ag (V.int s.ptr)) (ag (V.int (s.ptr+l))))=ag y2)(hk:Gv (k (.ok y2) (ak s)) r),Gv (z5 [.ak,.int l] [] (ak s) k) r:=
 Gv.to (E:=λ_=>_∧op _ λ_=>_) (λp=>af::p) (λ_=>by kernel_rfl) λg h1 y2 h3 hk=>g hk λp hk=>(aj h1 (az h3 hk))
theorem aaZ(s:Sc)(k:Res→Self→au){r:R}:∀(h1:(bO (↑(s.buf.length)) (s.ptr+1))=ae)⦃y2⦄(h3:(fy af (V.str s.buf) (ag (V.int s.ptr)) (ag (V.int (s.ptr+1))))=ag y2)(hk:Gv (k (.ok y2) (ak s)) r),Gv (z5 [.ak] [] (ak s) k) r:=
 Gv.to (E:=λ_=>_∧op _ λ_=>_) (λp=>ae::p) (λ_=>by kernel_rfl) λg h1 y2 h3 hk=>g hk λp hk=>(aj h1 (az h3 hk))
theorem aa0(s:Sc)(k:Res→Self→au){r:R}:∀(h1:(bO (↑(s.buf.length)) (s.ptr+1))=af)⦃y2⦄(h3:(fy af (V.str s.buf) (ag (V.int s.ptr)) (ag (V.int (s.ptr+1))))=ag y2)(hk:Gv (k (.ok y2) (ak s)) r),Gv (z5 [.ak] [] (ak s) k) r:=
 Gv.to (E:=λ_=>_∧op _ λ_=>_) (λp=>af::p) (λ_=>by kernel_rfl) λg h1 y2 h3 hk=>g hk λp hk=>(aj h1 (az h3 hk))
theorem Uv(s:Sc)(n:Int)(h1:(!Decidable.decide (n=0))=ae)(h2:(bO 0 s.ptr)=ae)(h3:(ltI s.ptr ↑(s.buf.length))=ae)(h4:(ax [10,133,8232,8233] (fD s.buf (a9 s.ptr) 0))=ae){r:R}(hr:r=(.next,⟨[((ai "self"),(.v V.ak)),((ai "length"),(.v (V.int (n -1)))),((ai "ch"),(.v (V.str ([fD s.buf (a9 s.ptr) 0]))))],(ak {s with ptr:=(s.ptr+1),idx:=(s.idx+1),cI:=(s.cI+1),col:=0}),af⟩)):Gv (eP ⟨[(b9,.v .ak),(dB,.v (.int n))],ak s,af⟩) r:=
 Gv.of (ae::ae::ae::[]) (by kernel_rfl) (aj h1 (aM h2 (aM h3 (aj h4 (aj tT hr)))))
theorem Uw(s:Sc)(n:Int)(h1:(!Decidable.decide (n=0))=ae)(h2:(bO 0 s.ptr)=ae)(h3:(ltI s.ptr ↑(s.buf.length))=ae)(h4:(ax [10,133,8232,8233] (fD s.buf (a9 s.ptr) 0))=af)(h5:(aB [fD s.buf (a9 s.ptr) 0] [13])=ae)(h6:(bO 0 (s.ptr+1))=ae)(h7:(ltI (s.ptr+1) ↑(s.buf.length))=ae)(h8:(!aB [fD s.buf (a9 (s.ptr+1)) 0] [10])=ae){r:R}(hr:r=(.next,⟨[((ai "self"),(.v V.ak)),((ai "length"),(.v (V.int (n -1)))),((ai "ch"),(.v (V.str ([fD s.buf (a9 s.ptr) 0]))))],(ak {s with ptr:=(s.ptr+1),idx:=(s.idx+1),cI:=(s.cI+1),col:=0}),af⟩)):Gv (eP ⟨[(b9,.v .ak),(dB,.v (.int n))],ak s,af⟩) r:=
 Gv.of (ae::af::ae::ae::ae::ae::[]) (by kernel_rfl) (aj h1 (aM h2 (aM h3 (aj h4 (aj h5 (aM h6 (aM h7 (aj h8 (aj tT (aj tT hr))))))))))
theorem Ux(s:Sc)(n:Int)(h1:(!Decidable.decide (n=0))=ae)(h2:(bO 0 s.ptr)=ae)(h3:(ltI s.ptr ↑(s.buf.length))=ae)(h4:(ax [10,133,8232,8233] (fD s.buf (a9 s.ptr) 0))=af)(h5:(aB [fD s.buf (a9 s.ptr) 0] [13])=ae)(h6:(bO 0 (s.ptr+1))=ae)(h7:(ltI (s.ptr+1) ↑(s.buf.length))=ae)(h8:(!aB [fD s.buf (a9 (s.ptr+1)) 0] [10])=af)(h9:(!aB [fD s.buf (a9 s.ptr) 0] [65279])=ae){r:R}(hr:r=(.next,⟨[((ai "self"),(.v V.ak)),((ai "length"),(.v (V.int (n -1)))),((ai "ch"),(.v (V.str ([fD s.buf (a9 s.ptr) 0]))))],(ak {s with ptr:=(s.ptr+1),idx:=(s.idx+1),col:=(s.col+1)}),af⟩)):Gv (eP ⟨[(b9,.v .ak),(dB,.v (.int n))],ak s,af⟩) r:=
 Gv.of (ae::af::ae::af::af::af::ae::[]) (by kernel_rfl) (aj h1 (aM h2 (aM h3 (aj h4 (aj h5 (aM h6 (aM h7 (aj h8 (aj tF (aj tF (aj h9 hr)))))))))))
theorem Uy(s:Sc)(n:Int)(h1:(!Decidable.decide (n=0))=ae)(h2:(bO 0 s.ptr)=ae)(h3:(ltI s.ptr ↑(s.buf.length))=ae)(h4:(ax [10,133,8232,8233] (fD s.buf (a9 s.ptr) 0))=af)(h5:(aB [fD s.buf (a9 s.ptr) 0] [13])=ae)(h6:(bO 0 (s.ptr+1))=ae)(h7:(ltI (s.ptr+1) ↑(s.buf.length))=ae)(h8:(!aB [fD s.buf (a9 (s.ptr+1)) 0] [10])=af)(h9:(!aB [fD s.buf (a9 s.ptr) 0] [65279])=af){r:R}(hr:r=(.next,⟨[((ai "self"),(.v V.ak)),((ai "length"),(.v (V.int (n -1)))),((ai "ch"),(.v (V.str ([fD s.buf (a9 s.ptr) 0]))))],(ak {s with ptr:=(s.ptr+1),idx:=(s.idx+1)}),af⟩)):Gv (eP ⟨[(b9,.v .ak),(dB,.v (.int n))],ak s,af⟩) r:=
 Gv.of (ae::af::ae::af::af::af::af::[]) (by kernel_rfl) (aj h1 (aM h2 (aM h3 (aj h4 (aj h5 (aM h6 (aM h7 (aj h8 (aj tF (aj tF (aj h9 hr)))))))))))
theorem Uz(s:Sc)(n:Int)(h1:(!Decidable.decide (n=0))=ae)(h2:(bO 0 s.ptr)=ae)(h3:(ltI s.ptr ↑(s.buf.length))=ae)(h4:(ax [10,133,8232,8233] (fD s.buf (a9 s.ptr) 0))=af)(h5:(aB [fD s.buf (a9 s.ptr) 0] [13])=af)(h6:(!aB [fD s.buf (a9 s.ptr) 0] [65279])=ae){r:R}(hr:r=(.next,⟨[((ai "self"),(.v V.ak)),((ai "length"),(.v (V.int (n -1)))),((ai "ch"),(.v (V.str ([fD s.buf (a9 s.ptr) 0]))))],(ak {s with ptr:=(s.ptr+1),idx:=(s.idx+1),col:=(s.col+1)}),af⟩)):Gv (eP ⟨[(b9,.v .ak),(dB,.v (.int n))],ak s,af⟩) r:=
 Gv.of (ae::af::af::af::af::ae::[]) (by kernel_rfl) (aj h1 (aM h2 (aM h3 (aj h4 (aj h5 (aj tF (aj tF (aj h6 hr))))))))
theorem UA(s:Sc)(n:Int)(h1:(!Decidable.decide (n=0))=ae)(h2:(bO 0 s.ptr)=ae)(h3:(ltI s.ptr ↑(s.buf.length))=ae)(h4:(ax [10,133,8232,8233] (fD s.buf (a9 s.ptr) 0))=af)(h5:(aB [fD s.buf (a9 s.ptr) 0] [13])=af)(h6:(!aB [fD s.buf (a9 s.ptr) 0] [65279])=af){r:R}(hr:r=(.next,⟨[((ai "self"),(.v V.ak)),((ai "length"),(.v (V.int (n -1)))),((ai "ch"),(.v (V.str ([fD s.buf (a9 s.ptr) 0]))))],(ak {s with ptr:=(s.ptr+1),idx:=(s.idx+1)}),af⟩)):Gv (eP ⟨[(b9,.v .ak),(dB,.v (.int n))],ak s,af⟩) r:=
 Gv.of (ae::af::af::af::af::af::[]) (by kernel_rfl) (aj h1 (aM h2 (aM h3 (aj h4 (aj h5 (aj tF (aj tF (aj h6 hr))))))))
theorem UB(s:Sc)(n:Int)(h1:(!Decidable.decide (n=0))=af){r:R}(hr:r=(.brk,⟨[((ai "self"),(.v V.ak)),((ai "length"),(.v (V.int n)))],(ak s),af⟩)):Gv (eP ⟨[(b9,.v .ak),(dB,.v (.int n))],ak s,af⟩) r:=
 Gv.of (af::[]) (by kernel_rfl) (aj h1 hr)
theorem UJ(s:Sc)(n:Int)(x:FV)(h1:(!Decidable.decide (n=0))=ae)(h2:(bO 0 s.ptr)=ae)(h3:(ltI s.ptr ↑(s.buf.length))=ae)(h4:(ax [10,133,8232,8233] (fD s.buf (a9 s.ptr) 0))=ae){r:R}(hr:r=(.next,⟨[((ai "self"),(.v V.ak)),((ai "length"),(.v (V.int (n -1)))),((ai "ch"),(.v (V.str ([fD s.buf (a9 s.ptr) 0]))))],(ak {s with ptr:=(s.ptr+1),idx:=(s.idx+1),cI:=(s.cI+1),col:=0}),af⟩)):Gv (eP ⟨[(b9,.v .ak),(dB,.v (.int n)),(fL,x)],ak s,af⟩) r:=
 Gv.of (ae::ae::ae::[]) (by kernel_rfl) (aj h1 (aM h2 (aM h3 (aj h4 (aj tT hr)))))
theorem UK(s:Sc)(n:Int)(x:FV)(h1:(!Decidable.decide (n=0))=ae)(h2:(bO 0 s.ptr)=ae)(h3:(ltI s.ptr ↑(s.buf.length))=ae)(h4:(ax [10,133,8232,8233] (fD s.buf (a9 s.ptr) 0))=af)(h5:(aB [fD s.buf (a9 s.ptr) 0] [13])=ae)(h6:(bO 0 (s.ptr+1))=ae)(h7:(ltI (s.ptr+1) ↑(s.buf.length))=ae)(h8:(!aB [fD s.buf (a9 (s.ptr+1)) 0] [10])=ae){r:R}(hr:r=(.next,⟨[((ai "self"),(.v V.ak)),((ai "length"),(.v (V.int (n -1)))),((ai "ch"),(.v (V.str ([fD s.buf (a9 s.ptr) 0]))))],(ak {s with ptr:=(s.ptr+1),idx:=(s.idx+1),cI:=(s.cI+1),col:=0}),af⟩)):Gv (eP ⟨[(b9,.v .ak),(dB,.v (.int n)),(fL,x)],ak s,af⟩) r:=
 Gv.of (ae::af::ae::ae::ae::ae::[]) (by kernel_rfl) (aj h1 (aM h2 (aM h3 (aj h4 (aj h5 (aM h6 (aM h7 (aj h8 (aj tT (aj tT hr))))))))))
theorem UL(s:Sc)(n:Int)(x:FV)(h1:(!Decidable.decide (n=0))=ae)(h2:(bO 0 s.ptr)=ae)(h3:(ltI s.ptr ↑(s.buf.length))=ae)(h4:(ax [10,133,8232,8233] (fD s.buf (a9 s.ptr) 0))=af)(h5:(aB [fD s.buf (a9 s.ptr) 0] [13])=ae)(h6:(bO 0 (s.ptr+1))=ae)(h7:(ltI (s.ptr+1) ↑(s.buf.length))=ae)(h8:(!aB [fD s.buf (a9 (s.ptr+1)) 0] [10])=af)(h9:(!aB [fD s.buf (a9 s.ptr) 0] [65279])=ae){r:R}(hr:r=(.next,⟨[((ai "self"),(.v V.ak)),((ai "length"),(.v (V.int (n -1)))),((ai "ch"),(.v (V.str ([fD s.buf (a9 s.ptr) 0]))))],(ak {s with ptr:=(s.ptr+1),idx:=(s.idx+1),col:=(s.col+1)}),af⟩)):Gv (eP ⟨[(b9,.v .ak),(dB,.v (.int n)),(fL,x)],ak s,af⟩) r:=
 Gv.of (ae::af::ae::af::af::af::ae::[]) (by kernel_rfl) (aj h1 (aM h2 (aM h3 (aj h4 (aj h5 (aM h6 (aM h7 (aj h8 (aj tF (aj tF (aj h9 hr)))))))))))
theorem UM(s:Sc)(n:Int)(x:FV)(h1:(!Decidable.decide (n=0))=ae)(h2:(bO 0 s.ptr)=ae)(h3:(ltI s.ptr ↑(s.buf.length))=ae)(h4:(ax [10,133,8232,8233] (fD s.buf (a9 s.ptr) 0))=af)(h5:(aB [fD s.buf (a9 s.ptr) 0] [13])=ae)(h6:(bO 0 (s.ptr+1))=ae)(h7:(ltI (s.ptr+1) ↑(s.buf.length))=ae)(h8:(!aB [fD s.buf (a9 (s.ptr+1)) 0] [10])=af)(h9:(!aB [fD s.buf (a9 s.ptr) 0] [65279])=af){r:R}(hr:r=(.next,⟨[((ai "self"),(.v V.ak)),((ai "length"),(.v (V.int (n -1)))),((ai "ch"),(.v (V.str ([fD s.buf (a9 s.ptr) 0]))))],(ak {s with ptr:=(s.ptr+1),idx:=(s.idx+1)}),af⟩)):Gv (eP ⟨[(b9,.v .ak),(dB,.v (.int n)),(fL,x)],ak s,af⟩) r:=
 Gv.of (ae::af::ae::af::af::af::af::[]) (by kernel_rfl) (aj h1 (aM h2 (aM h3 (aj h4 (aj h5 (aM h6 (aM h7 (aj h8 (aj tF (aj tF (aj h9 hr)))))))))))
theorem UN(s:Sc)(n:Int)(x:FV)(h1:(!Decidable.decide (n=0))=ae)(h2:(bO 0 s.ptr)=ae)(h3:(ltI s.ptr ↑(s.buf.length))=ae)(h4:(ax [10,133,8232,8233] (fD s.buf (a9 s.ptr) 0))=af)(h5:(aB [fD s.buf (a9 s.ptr) 0] [13])=af)(h6:(!aB [fD s.buf (a9 s.ptr) 0] [65279])=ae){r:R}(hr:r=(.next,⟨[((ai "self"),(.v V.ak)),((ai "length"),(.v (V.int (n -1)))),((ai "ch"),(.v (V.str ([fD s.buf (a9 s.ptr) 0]))))],(ak {s with ptr:=(s.ptr+1),idx:=(s.idx+1),col:=(s.col+1)}),af⟩)):Gv (eP ⟨[(b9,.v .ak),(dB,.v (.int n)),(fL,x)],ak s,af⟩) r:=
 Gv.of (ae::af::af::af::af::ae::[]) (by kernel_rfl) (aj h1 (aM h2 (aM h3 (aj h4 (aj h5 (aj tF (aj tF (aj h6 hr))))))))
theorem UO(s:Sc)(n:Int)(x:FV)(h1:(!Decidable.decide (n=0))=ae)(h2:(bO 0 s.ptr)=ae)(h3:(ltI s.ptr ↑(s.buf.length))=ae)(h4:(ax [10,133,8232,8233] (fD s.buf (a9 s.ptr) 0))=af)(h5:(aB [fD s.buf (a9 s.ptr) 0] [13])=af)(h6:(!aB [fD s.buf (a9 s.ptr) 0] [65279])=af){r:R}(hr:r=(.next,⟨[((ai "self"),(.v V.ak)),((ai "length"),(.v (V.int (n -1)))),((ai "ch"),(.v (V.str ([fD s.buf (a9 s.ptr) 0]))))],(ak {s with ptr:=(s.ptr+1),idx:=(s.idx+1)}),af⟩)):Gv (eP ⟨[(b9,.v .ak),(dB,.v (.int n)),(fL,x)],ak s,af⟩) r:=
 Gv.of (ae::af::af::af::af::af::[]) (by kernel_rfl) (aj h1 (aM h2 (aM h3 (aj h4 (aj h5 (aj tF (aj tF (aj h6 hr))))))))
theorem UP(s:Sc)(n:Int)(x:FV)(h1:(!Decidable.decide (n=0))=af){r:R}(hr:r=(.brk,⟨[((ai "self"),(.v V.ak)),((ai "length"),(.v (V.int n))),((ai "ch"),x)],(ak s),af⟩)):Gv (eP ⟨[(b9,.v .ak),(dB,.v (.int n)),(fL,x)],ak s,af⟩) r:=
 Gv.of (af::[]) (by kernel_rfl) (aj h1 hr)
theorem UH(s:Sc)(n:Int)(k:Res→Self→au){r:R}:∀(h1:(bO (↑(s.buf.length)) (s.ptr+n+1))=ae)⦃a2⦄⦃s3⦄(h4:(Gv (bo eP ⟨[((ai "self"),(.v V.ak)),((ai "length"),(.v (V.int n)))],(ak s),af⟩) (.next,⟨a2,(ak s3),af⟩)))(hk:Gv (k (.ok V.none) (ak s3)) r),Gv (yi [.ak,.int n] [] (ak s) k) r:=
 Gv.to (E:=λ_=>_∧∃_,∃_,_) (λp=>ae::p) (λ_=>by kernel_rfl) λg h1 a2 s3 h4 hk=>g hk λp hk=>(aj h1 (aC a2 (aC s3 (aj h4 hk))))
theorem UI(s:Sc)(n:Int)(k:Res→Self→au){r:R}:∀(h1:(bO (↑(s.buf.length)) (s.ptr+n+1))=af)⦃a2⦄⦃s3⦄(h4:(Gv (bo eP ⟨[((ai "self"),(.v V.ak)),((ai "length"),(.v (V.int n)))],(ak s),af⟩) (.next,⟨a2,(ak s3),af⟩)))(hk:Gv (k (.ok V.none) (ak s3)) r),Gv (yi [.ak,.int n] [] (ak s) k) r:=
 Gv.to (E:=λ_=>_∧∃_,∃_,_) (λp=>af::p) (λ_=>by kernel_rfl) λg h1 a2 s3 h4 hk=>g hk λp hk=>(aj h1 (aC a2 (aC s3 (aj h4 hk))))
theorem UE(s:Sc)(k:Res→Self→au){r:R}:∀(h1:(bO (↑(s.buf.length)) (s.ptr+1+1))=ae)⦃a2⦄⦃s3⦄(h4:(Gv (bo eP ⟨[((ai "self"),(.v V.ak)),((ai "length"),(.v (V.int 1)))],(ak s),af⟩) (.next,⟨a2,(ak s3),af⟩)))(hk:Gv (k (.ok V.none) (ak s3)) r),Gv (yi [.ak] [] (ak s) k) r:=
 Gv.to (E:=λ_=>_∧∃_,∃_,_) (λp=>ae::p) (λ_=>by kernel_rfl) λg h1 a2 s3 h4 hk=>g hk λp hk=>(aj h1 (aC a2 (aC s3 (aj h4 hk))))
theorem UG(s:Sc)(k:Res→Self→au){r:R}:∀(h1:(bO (↑(s.buf.length)) (s.ptr+1+1))=af)⦃a2⦄⦃s3⦄(h4:(Gv (bo eP ⟨[((ai "self"),(.v V.ak)),((ai "length"),(.v (V.int 1)))],(ak s),af⟩) (.next,⟨a2,(ak s3),af⟩)))(hk:Gv (k (.ok V.none) (ak s3)) r),Gv (yi [.ak] [] (ak s) k) r:=
 Gv.to (E:=λ_=>_∧∃_,∃_,_) (λp=>af::p) (λ_=>by kernel_rfl) λg h1 a2 s3 h4 hk=>g hk λp hk=>(aj h1 (aC a2 (aC s3 (aj h4 hk))))
theorem xu{s:Sc}{i:Int}{c:Nat}(h:s.at i=ag c):bO 0 (s.ptr+i)=ae∧ltI (s.ptr+i) s.buf.length=ae∧c=s.buf.getD (s.ptr+i).toNat 0:=bK h λh1 h=>bK h λh2 h=>⟨h1,h2,so h⟩
theorem GS{s:Sc}{c:Nat}(h:s.at 0=ag c):bO 0 s.ptr=ae∧ltI s.ptr s.buf.length=ae∧c=s.buf.getD s.ptr.toNat 0:=by
 have:=xu h
 rw[aeT]at this;exact this
inductive AO(d i:Int):List V→Prop
 |no (e:i=d):AO d i [.ak]
 |yes:AO d i [.ak,.int i]
theorem wu{d i:Int}{args:List V}(h:zU d args=ag i):AO d i args:=by
 cases args with
 |nil=>exact no h
 |cons a r=>
  refine bK h λha h=>?_
  rw[tU ha]
  cases r with
  |nil=>exact .no (so h)
  |cons y r=>exact bK h λhn h=>by rw[c_ hn,iE h];exact .yes
theorem Ru{s:Sc}{l:Int}{t:List Nat}(h:s.pre l=ag t):fy af (.str s.buf) (ag (.int s.ptr)) (ag (.int (s.ptr+l)))=ag (.str t):=bK h λh1 h=>by rw[so h];exact ez h1 rfl
theorem UD{s s' :Sc}{n:Int}(h:s.step=ag s')(hn:(!decide (n=0))=ae):Gv (eP ⟨[(b9,.v .ak),(dB,.v (.int n))],ak s,af⟩) (.next,⟨[(b9,.v .ak),(dB,.v (.int (n -1))),(fL,.v (.str [s.buf.getD s.ptr.toNat 0]))],ak s',af⟩):=aD h λc hc h=>by
 obtain⟨a1,a2,rfl⟩:=GS hc
 refine gM h (λhb h=>?_) λhb h=>gM h (λdg h=>aD h λd hd h=>?_) λdg h=>?_
 ·rw[so h];exact Uv s n hn a1 a2 hb rfl
 ·obtain⟨b1,b2,rfl⟩:=xu hd
  refine gM h (λaY h=>?_) λaY h=>?_
  ·rw[so h]
   unfold Sc.over
   cases q:aB [s.buf.getD s.ptr.toNat 0] [65279]with
   |true=>exact Uy s n hn a1 a2 hb dg b1 b2 (by rw[aY];rfl) (by rw[q];rfl) rfl
   |false=>exact Ux s n hn a1 a2 hb dg b1 b2 (by rw[aY];rfl) (by rw[q];rfl) rfl
  ·rw[so h];exact Uw s n hn a1 a2 hb dg b1 b2 (by rw[aY];rfl) rfl
 ·rw[so h]
  unfold Sc.over
  cases q:aB [s.buf.getD s.ptr.toNat 0] [65279]with
  |true=>exact UA s n hn a1 a2 hb dg (by rw[q];rfl) rfl
  |false=>exact Uz s n hn a1 a2 hb dg (by rw[q];rfl) rfl
theorem UQ{s s' :Sc}{n:Int}{x:FV}(h:s.step=ag s')(hn:(!decide (n=0))=ae):Gv (eP ⟨[(b9,.v .ak),(dB,.v (.int n)),(fL,x)],ak s,af⟩) (.next,⟨[(b9,.v .ak),(dB,.v (.int (n -1))),(fL,.v (.str [s.buf.getD s.ptr.toNat 0]))],ak s',af⟩):=aD h λc hc h=>by
 obtain⟨a1,a2,rfl⟩:=GS hc
 refine gM h (λhb h=>?_) λhb h=>gM h (λdg h=>aD h λd hd h=>?_) λdg h=>?_
 ·rw[so h];exact UJ s n x hn a1 a2 hb rfl
 ·obtain⟨b1,b2,rfl⟩:=xu hd
  refine gM h (λaY h=>?_) λaY h=>?_
  ·rw[so h]
   unfold Sc.over
   cases q:aB [s.buf.getD s.ptr.toNat 0] [65279]with
   |true=>exact UM s n x hn a1 a2 hb dg b1 b2 (by rw[aY];rfl) (by rw[q];rfl) rfl
   |false=>exact UL s n x hn a1 a2 hb dg b1 b2 (by rw[aY];rfl) (by rw[q];rfl) rfl
  ·rw[so h];exact UK s n x hn a1 a2 hb dg b1 b2 (by rw[aY];rfl) rfl
 ·rw[so h]
  unfold Sc.over
  cases q:aB [s.buf.getD s.ptr.toNat 0] [65279]with
  |true=>exact UO s n x hn a1 a2 hb dg (by rw[q];rfl) rfl
  |false=>exact UN s n x hn a1 a2 hb dg (by rw[q];rfl) rfl
theorem uT{n:Nat}:(!decide (((n+1:Nat):Int)=0))=ae:=by
 rw[decide_eq_false (Int.ofNat_ne_zero.mpr (Z_ n))];rfl
theorem IU:∀(n:Nat){s s' :Sc}{x:FV},s.fwd n=ag s' →∃l,Gv (bo eP ⟨[(b9,.v .ak),(dB,.v (.int n)),(fL,x)],ak s,af⟩) (.next,⟨l,ak s',af⟩)
 |0,s,s',x,h=>by rw[so h];exact⟨_,iG (UP s _ x rfl rfl)⟩
 |n+1,s,s',x,h=>aD h λs1 h1 h=>by
  obtain⟨l,h2⟩:=IU n h
  exact⟨l,eZ (UQ h1 uT) (by rw[Int.natCast_succ,EI];exact h2)⟩
theorem UC:∀(n:Nat){s s' :Sc},s.fwd n=ag s' →∃l,Gv (bo eP ⟨[(b9,.v .ak),(dB,.v (.int n))],ak s,af⟩) (.next,⟨l,ak s',af⟩)
 |0,s,s',h=>by rw[so h];exact⟨_,iG (UB s _ rfl rfl)⟩
 |n+1,s,s',h=>aD h λs1 h1 h=>by
  obtain⟨l,h2⟩:=IU n h
  exact⟨l,eZ (UD h1 uT) (by rw[Int.natCast_succ,EI];exact h2)⟩
section
variable{W:Wd}(hK:W.K=K W.w.params)
include hK
theorem aaM:bH W (FX W) 3 ae 152 L5:=(g9 hK (bnd:=bD "index" 0 390) (Oq hK) (D:=2) (by decide) cK.nil (loops:=[]) (tD (by kernel_rfl))).says λargs aE self k r h=>bF h λhk h=>a_ h λi hi h=>mi h λs hs h=>a_ h λc hc hh=>by
 obtain⟨a1,a2,e⟩:=xu hc
 rw[c_ hk,hs]
 rw[e]at hh
 cases wu hi with
 |no e=>rw[e]at a1 a2 hh;exact aaO s k a1 a2 hh
 |yes=>exact aaN s i k a1 a2 hh
theorem NR:bH W (FX W) 3 ae 189 FT:=(g9 hK (Ow hK) (D:=2) (by decide) cK.nil (loops:=[]) (tD (by kernel_rfl))).says λargs aE self k r h=>bF h λhk h=>a_ h λq hq h=>bF h λh1 h=>a_ h λi h2 h=>mi h λs hs h=>by
 rw[c_ hk,hs,oa hq,tU h1,iE h2]
 exact adU s i k h
theorem Yv:bH W (FX W) 3 ae 175 KI:=(g9 hK (Gj hK) (D:=2) (by decide) cK.nil (loops:=[]) (tD (by kernel_rfl))).says λargs aE self k r h=>bF h λhk h=>a_ h λq hq h=>bF h λh1 h=>mi h λs hs h=>by
 rw[c_ hk,hs,dN hq,tU h1]
 exact Yx s k h
theorem Cn:cK W 3 u_:=cK.nil.cons (cE hK (by kernel_rfl)) (NR hK) (eF _)
theorem aa3:bH W (FX W) 4 ae 160 Me:=(g9 hK (bnd:=bD "length" 1 399) (Ot hK) (D:=3) (by decide) (Cn hK) (loops:=[]) (tD (by kernel_rfl))).says λargs aE self k r h=>bF h λhk h=>a_ h λi hi h=>mi h λs hs h=>a_ h λt ht hh=>by
 rw[c_ hk,hs]
 have hc:=Ru ht
 cases q:bO s.buf.length (s.ptr+i)with
 |true=>cases wu hi with
  |no e=>rw[e]at hc q;exact aaZ s k q hc hh
  |yes=>exact aa1 s i k q hc hh
 |false=>cases wu hi with
  |no e=>rw[e]at hc q;exact aa0 s k q hc hh
  |yes=>exact aa2 s i k q hc hh
omit hK in
theorem l_{X:bU}{G:aX}{l:List aG}(h:l=[]):du W X G l:=by rw[h];exact dw
omit hK in
theorem du.cons{X:bU}{G:aX}{l:List (Nat×Lp)}{cA:aG}{r:List aG}{F:Lp}(hl:gQ cA.pos.line l=ag F)(H:bY W X (G.loop l) cA F)(HR:du W X (G.loop l) r):du W X (G.loop l) (cA::r):=λs hs F' hF=>(List.mem_cons.mp hs).elim (λe=>by
 rw[e]at hF⊢
 rw[so (hl.symm.trans hF)];exact H) λhs=>HR s hs F' hF
omit hK in
theorem jQ{X:bU}{G:aX}{l:List (Nat×Lp)}{b:List aG}{cA:aG}{F:Lp}(e:b=[cA])(hl:gQ cA.pos.line l=ag F)(H:bY W X (G.loop l) cA F):du W X (G.loop l) b:=by rw[e];exact du.cons hl H dw
omit hK in
theorem Km{X:bU}{G:aX}{l:List (Nat×Lp)}{b:List aG}{s t:aG}{F F' :Lp}(e:b=[s,t])(hl:gQ s.pos.line l=ag F)(H:bY W X (G.loop l) s F)(yv:gQ t.pos.line l=ag F')(H' :bY W X (G.loop l) t F'):du W X (G.loop l) b:=by rw[e];exact du.cons hl H (du.cons yv H' dw)
noncomputable def j3(s:aG):aG:=.While (fK s) (bS s) [] s.pos
theorem T_:bH W (FX W) 4 ae 168 IJ:=(g9 hK (bnd:=bD "length" 1 408) (Ou hK) (D:=3) (by decide) (Cn hK) (loops:=IT) (jQ (G:=GW vf u_ [] 3) (cA:=j3 yj) (by kernel_rfl) (F:=Kl eP) (by kernel_rfl) (bY.n (vX hK (by decide) (Cn hK) (l_ (by kernel_rfl)) _)))).says λargs aE self k r h=>bF h λhk h=>a_ h λn hn h=>bF h λh0 h=>mi h λs hs h=>a_ h λs' vG hh=>by
 rw[c_ hk,hs]
 obtain⟨l,hl⟩:=UC n.toNat vG
 rw[Int.toNat_of_nonneg (of_decide_eq_true h0)]at hl
 cases q:bO s.buf.length (s.ptr+n+1)with
 |true=>cases wu hn with
  |no e=>rw[e]at q hl;exact UE s k q hl hh
  |yes=>exact UH s n k q hl hh
 |false=>cases wu hn with
  |no e=>rw[e]at q hl;exact UG s k q hl hh
  |yes=>exact UI s n k q hl hh
end
noncomputable def Cg:List (aQ×Fn):=[(152,L5),(189,FT),(160,Me),(168,IJ),(175,KI)]
theorem Ir{W:Wd}(hK:W.K=K W.w.params):cK W 4 Cg:=((((cK.nil.cons (cE hK (by kernel_rfl)) (Yv hK) (by decide)).cons (cE hK (by kernel_rfl)) (T_ hK) (by decide)).cons (cE hK (by kernel_rfl)) (aa3 hK) (by decide)).cons (cE hK (by kernel_rfl)) (NR hK) (by decide)).cons (cE hK (by kernel_rfl)) (aaM hK) (by decide)
def pk(o:Out)(st:aq):au:=leaf (o,st)
theorem bY.by{W:Wd}{X:bU}{G:aX}{cA:aG}{F S:Lp}(H:bY W X G cA F)(h:∀st k r,Gv (S st k) r→∃o st',Gv (F st pk) (o,st')∧Gv (k o st') r):bY W X G cA S:=λ{st k r} e=>by
 obtain⟨o,st',h1,h2⟩:=h st k r e
 rcases H h1 with⟨y,s1,H,h⟩|⟨y,s1,H,h⟩
 ·cases So h;exact .ok _ _ H h2
 ·cases So h;exact .ex _ _ H h2
def woK{α:Type}(F:Fn)(e:α→V)(args:List V)(s:Sc)(k:Res→Self→au):au:=λp r=>cv p False λd p=>lG d (∃a s',Gives F args s (.ok (e a)) s' ∧k (.ok (e a)) (ak s') p r) (∃s',Gives F args s (.ok .none) s' ∧k (.ok .none) (ak s') p r)
def wo{α:Type}(F:Fn)(e:α→V):Fn:=λargs aE self k=>Tt (isNil aE) (lD self λs=>woK F e args s k)
theorem bH.wo{W:Wd}{X:bU}{D:Nat}{q:Bool}{f:aQ}{F:Fn}{α:Type}{e:α→V}(H:bH W X D q f F):bH W X D q f (wo F e):=H.by λargs aE self k r h=>bF h λhk h=>mi h λs hs h=>by
 obtain⟨p,h⟩:=h
 cases p with
 |nil=>exact h.elim
 |cons d p=>cases d with
  |true=>obtain⟨s',h1,h2⟩:=h;exact⟨_,_,by rw[c_ hk,hs];exact h1,⟨p,h2⟩⟩
  |false=>obtain⟨a,s',h1,h2⟩:=h;exact⟨_,_,by rw[c_ hk,hs];exact h1,⟨p,h2⟩⟩
def wkK(F:Fn)(args:List V)(s:Sc)(k:Res→Self→au):au:=λp r=>∃ks,Gives F args s (.ok .none) {s with keys:=ks}∧k (.ok .none) (ak {s with keys:=ks}) p r
def wk(F:Fn):Fn:=λargs aE self k=>Tt (isNil aE) (lD self λs=>wkK F args s k)
theorem bH.wk{W:Wd}{X:bU}{D:Nat}{q:Bool}{f:aQ}{F:Fn}(H:bH W X D q f F):bH W X D q f (wk F):=H.by λargs aE self k r h=>bF h λhk h=>mi h λs hs h=>by
 obtain⟨p,ks,h1,h2⟩:=h
 exact⟨_,_,by rw[c_ hk,hs];exact h1,⟨p,h2⟩⟩
noncomputable def f_(_:Unit):V:=.none
def yZ(F:Lp)(x:Str):Lp:=λst k p r=>cv p False λd p=>lG d (∃v l,Gv (F st pk) (.exc v,⟨l,st.self,st.free⟩)∧k (.exc v) ⟨l,st.self,st.free⟩ p r) (∃m:Int,Gv (F st pk) (.next,⟨di x (.v (.int m)) st.loc,st.self,st.free⟩)∧k .next ⟨di x (.v (.int m)) st.loc,st.self,st.free⟩ p r)
theorem bY.i{W:Wd}{X:bU}{G:aX}{cA:aG}{F:Lp}{x:Str}(H:bY W X G cA F):bY W X G cA (yZ F x):=H.by λst k r h=>by
 obtain⟨p,h⟩:=h
 cases p with
 |nil=>exact h.elim
 |cons d p=>cases d with
  |true=>obtain⟨m,h1,h2⟩:=h;exact⟨_,_,h1,p,h2⟩
  |false=>obtain⟨v,l,h1,h2⟩:=h;exact⟨_,_,h1,p,h2⟩
noncomputable def nX(l:FS)(_:Unit):FS:=l
noncomputable def Ah(x:Str)(l:FS)(m:Int):FS:=di x (.v (.int m)) l
noncomputable def MT(x:Str)(l:FS)(m:List V):FS:=di x (.own m) l
noncomputable def mS(m:String):aG:=bh "Scanner" m
noncomputable def b0:fc:=bN [ai "self"]
noncomputable def b3:fc:=bN [ai "self",ai "double",ai "start_mark"]
def d8:Fn:=dO (GW (mS "scan_line_break") Cg [] 4) (aU (mS "scan_line_break")) b0
noncomputable def qD:List (aQ×Fn):=(1045,wd d8 V.str)::Cg
noncomputable def qo:aG:=mS "scan_flow_scalar_breaks"
noncomputable def uK:aG:=eU (aU qo) 1
noncomputable def xB:aG:=eU (cC (bS uK)) 0
def gi:aq→au:=gE (GW qo qD [] 5) (fK xB) (bS xB)
noncomputable def G0:List (Nat×Lp):=[(xB.pos.line,gR gi nX)]
def dy:aq→au:=gE (GW qo qD G0 5) (fK uK) (bS uK)
noncomputable def GZ:List (Nat×Lp):=[(uK.pos.line,vW dy V.lst)]
def jg:Fn:=dO (GW qo qD GZ 5) (aU qo) b3
noncomputable def oZ:List (aQ×Fn):=(1003,wx jg V.lst)::qD
noncomputable def wb:aG:=mS "scan_flow_scalar_non_spaces"
noncomputable def mh:aG:=eU (aU wb) 1
noncomputable def zp:aG:=eU (cC (bS mh)) 0
noncomputable def gu:aG:=eU (cC (bS mh)) 1
noncomputable def kN:Str:=ai "k"
noncomputable def iS:Str:=ai "chunks"
noncomputable def nz:aX:=GW wb oZ [] 6
def lC:aq→au:=gE nz (fK zp) (bS zp)
def nA:Lp:=forR nz (eI gu) (xF (eX gu)) (uO (eX gu)) (uN (eX gu)) (bS gu)
def iJ:V→aq→au:=ft nz (eI gu) (bS gu)
noncomputable def K_:List (Nat×Lp):=[(zp.pos.line,gR lC (Ah dB)),(gu.pos.line,yZ nA kN)]
noncomputable def cQ:aX:=GW wb oZ K_ 6
def nB:aq→au:=gE cQ (fK mh) (bS mh)
noncomputable def K9:List (Nat×Lp):=[(mh.pos.line,vW nB V.lst)]
def ia:Fn:=dO (GW wb oZ K9 6) (aU wb) b3
noncomputable def wQ:aG:=mS "scan_flow_scalar_spaces"
noncomputable def Al:aG:=eU (cC (aU wQ)) 0
def spT:aq→au:=gE (GW wQ oZ [] 6) (fK Al) (bS Al)
noncomputable def M6:List (Nat×Lp):=[(Al.pos.line,gR spT (Ah dB))]
def j1:Fn:=dO (GW wQ oZ M6 6) (aU wQ) b3
noncomputable def u7:List (aQ×Fn):=(989,wx ia V.lst)::(996,wx j1 V.lst)::oZ
noncomputable def ve:aG:=mS "scan_flow_scalar"
noncomputable def yg:aG:=eU (cC (aU ve)) 0
def iZ:aq→au:=gE (GW ve u7 [] 7) (fK yg) (bS yg)
noncomputable def IP:List (Nat×Lp):=[(yg.pos.line,tv iZ (MT iS))]
def iX:Fn:=dO (GW ve u7 IP 7) (aU ve) (bN [ai "self",ai "style"])
noncomputable def eE:List (aQ×Fn):=(979,wx iX id)::u7
section
variable{W:Wd}(hK:W.K=K W.w.params)
include hK
theorem fN{f:aQ}{m:aG}{bnd:fc}{D:Nat}{fns:List (aQ×Fn)}(H:cK W D fns)(Dd:b4 W f (aU m) (bP m) bnd)(hD:2≤D)(h:cC (aU m)=[]):bH W (FX W) (D+1) ae f (dO (GW m fns [] D) (aU m) bnd):=g9 hK Dd hD H (l_ h)
theorem pv{m cA:aG}{D:Nat}{fns l:_}(H:cK W D fns)(hD:2≤D)(e:cC (bS cA)=[])(l' :List (Nat×Lp)):bY W (FX W) (GW m fns l' D) (j3 cA) (λst k=>iH (bo (gE (GW m fns l D) (fK cA) (bS cA)) st) k):=vX hK hD H (l_ e) l'
theorem ab6:bH W (FX W) 5 ae 1045 (wd d8 V.str):=(fN hK (Ir hK) (N7 hK) (by decide) (by kernel_rfl)).wd
theorem x_:cK W 5 qD:=((Ir hK).mono (by decide)).cons (cE hK (by kernel_rfl)) (ab6 hK) (by decide)
theorem Qs:bH W (FX W) 6 ae 1003 (wx jg V.lst):=(g9 hK (bnd:=b3) (N6 hK) (by decide) (x_ hK) (loops:=GZ) (jQ (G:=GW qo qD [] 5) (cA:=j3 uK) (F:=vW dy V.lst) (by kernel_rfl) (by kernel_rfl) (bY.r (vX hK (by decide) (x_ hK) (jQ (G:=GW qo qD [] 5) (l:=G0) (cA:=j3 xB) (F:=gR gi nX) (by kernel_rfl) (by kernel_rfl) (bY.n (pv hK (x_ hK) (by decide) (by kernel_rfl) _))) _)))).wx
theorem qF:cK W 6 oZ:=((x_ hK).mono (by decide)).cons (cE hK (by kernel_rfl)) (Qs hK) (by decide)
theorem Zb(l:List (Nat×Lp)):bY W (FX W) (nz.loop l) (.For (eI gu) (.Call (.Name (xF (eX gu)) (uO (eX gu))) [uN (eX gu)] [] (xG (eX gu))) (bS gu) [] gu.pos) (yZ nA kN):=
 bY.i (bY.o6 (G:=nz) (l:=[]) (T4 (mD hK _ _ (by decide) (qF hK)) (ji W) (rC W) rfl (l_ (by kernel_rfl))))
theorem Zm:bH W (FX W) 7 ae 989 (wx ia V.lst):=(g9 hK (bnd:=b3) (OY hK) (by decide) (qF hK) (loops:=K9) (jQ (G:=nz) (cA:=j3 mh) (F:=vW nB V.lst) (by kernel_rfl) (by kernel_rfl) (bY.r (vX hK (by decide) (qF hK) (Km (G:=nz) (l:=K_) (s:=j3 zp) (F:=gR lC (Ah dB)) (F' :=yZ nA kN) (by kernel_rfl) (by kernel_rfl) (bY.n (pv hK (qF hK) (by decide) (by kernel_rfl) _)) (by kernel_rfl) (Zb hK _)) _)))).wx
theorem acn:bH W (FX W) 7 ae 996 (wx j1 V.lst):=(g9 hK (bnd:=b3) (OZ hK) (by decide) (qF hK) (loops:=M6) (jQ (G:=GW wQ oZ [] 6) (cA:=j3 Al) (F:=gR spT (Ah dB)) (by kernel_rfl) (by kernel_rfl) (bY.n (pv hK (qF hK) (by decide) (by kernel_rfl) _)))).wx
theorem Ci:cK W 7 u7:=(((qF hK).mono (by decide)).cons (cE hK (by kernel_rfl)) (acn hK) (by decide)).cons (cE hK (by kernel_rfl)) (Zm hK) (by decide)
theorem Ug:bH W (FX W) 8 ae 979 (wx iX id):=(g9 hK (bnd:=bN [ai "self",ai "style"]) (OX hK) (by decide) (Ci hK) (loops:=IP) (jQ (G:=GW ve u7 [] 7) (cA:=j3 yg) (F:=tv iZ (MT iS)) (by kernel_rfl) (by kernel_rfl) (bY.x (pv hK (Ci hK) (by decide) (by kernel_rfl) _)))).wx
theorem iW:cK W 8 eE:=((Ci hK).mono (by decide)).cons (cE hK (by kernel_rfl)) (Ug hK) (by decide)
end
noncomputable def bI:fc:=bN [ai "self",ai "column"]
def yY{α:Type}(F:Lp)(sh:FS→α→FS):Lp:=λst k p r=>∃a s,Gv (F st pk) (.next,⟨sh st.loc a,ak s,af⟩)∧k .next ⟨sh st.loc a,ak s,af⟩ p r
noncomputable def nW(_ l:FS):FS:=l
def sF(m:String)(fns:List (aQ×Fn))(D:Nat)(b:fc):Fn:=dO (GW (mS m) fns [] D) (aU (mS m)) b
def sj:Fn:=sF "check_document_start" eE 8 b0
def uP:Fn:=sF "check_block_entry" eE 8 b0
def nP:Fn:=sF "remove_possible_simple_key" eE 8 b0
def oG:Fn:=sF "add_indent" eE 8 bI
noncomputable def rj:aG:=mS "next_possible_simple_key"
noncomputable def md:aG:=eU (cC (aU rj)) 0
def Ej:Lp:=IF (GW rj eE [] 8) (NA (eI md)) (eX md) (bS md)
def tC:Fn:=dO (GW rj eE [(md.pos.line,Ej)] 8) (aU rj) b0
noncomputable def stM:aG:=mS "stale_possible_simple_keys"
noncomputable def jd:aG:=eU (cC (aU stM)) 0
def Fx:V→aq→au:=ft (GW stM eE [] 8) (eI jd) (bS jd)
def tW:Lp:=forL (GW stM eE [] 8) (eI jd) (eX jd) (bS jd)
def mx:Fn:=dO (GW stM eE [(jd.pos.line,yY tW nW)] 8) (aU stM) b0
noncomputable def w_:aG:=mS "unwind_indent"
noncomputable def xa:aG:=eU (cC (aU w_)) 0
def p8:aq→au:=gE (GW w_ eE [] 8) (fK xa) (bS xa)
def rW:Fn:=dO (GW w_ eE [(xa.pos.line,gR p8 nW)] 8) (aU w_) bI
noncomputable def pX:aG:=mS "scan_to_next_token"
noncomputable def rN:aG:=eU (cC (aU pX)) 0
noncomputable def Aj:aG:=eU (cC (bS rN)) 0
noncomputable def Ak:aG:=eU (cC (bS rN)) 1
def rM:aq→au:=gE (GW pX eE [] 8) (fK Aj) (bS Aj)
def M0:aq→au:=gE (GW pX eE [] 8) (fK Ak) (bS Ak)
noncomputable def MZ:List (Nat×Lp):=[(Aj.pos.line,gR rM nX),(Ak.pos.line,gR M0 nX)]
def kB:aq→au:=gE (GW pX eE MZ 8) (fK rN) (bS rN)
def fk:Fn:=dO (GW pX eE [(rN.pos.line,gR kB nW)] 8) (aU pX) b0
noncomputable def sJ:List (aQ×Fn):=(825,wd sj f_)::(839,wd uP V.bool)::(615,wk nP)::(629,wd oG V.bool)::(594,wo tC V.int)::(601,wd mx f_)::(622,wd rW f_)::(867,wd fk f_)::eE
def tY:Fn:=sF "save_possible_simple_key" sJ 9 b0
def uZ:Fn:=sF "fetch_stream_end" sJ 9 b0
def qC:Fn:=sF "fetch_block_entry" sJ 9 b0
def lz:Fn:=sF "need_more_tokens" sJ 9 b0
noncomputable def Nn:Str:=ai "style"
noncomputable def Cj:List (aQ×Fn):=(608,wd tY f_)::(643,wd uZ f_)::(727,wd qC f_)::(580,wo lz V.bool)::sJ
def kX:Fn:=sF "fetch_flow_scalar" Cj 10 (gK 1 [ai "style"] [(ai "self",.a 0),(ai "style",.a 1)])
def oo(F:Fn)(args:List V)(aE:List (Str×V))(s:Sc)(r:Res)(s' :Sc):Prop:=Gv (F args aE (ak s) bA) (ky r (ak s'))
def Cb:Fn:=λargs aE self k=>lD self λs=>λp r=>cv p False λd p=>lG d (∃v s',oo kX args aE s (.exc v) s' ∧k (.exc v) (ak s') p r) (∃s',oo kX args aE s (.ok .none) s' ∧k (.ok .none) (ak s') p r)
theorem bH.ff{W:Wd}{X:bU}{D:Nat}{q:Bool}{f:aQ}(H:bH W X D q f kX):bH W X D q f Cb:=H.by λargs aE self k r h=>mi h λs hs h=>by
 obtain⟨p,h⟩:=h
 cases p with
 |nil=>exact h.elim
 |cons d p=>cases d with
  |true=>obtain⟨s',h1,h2⟩:=h;exact⟨_,_,by rw[hs];exact h1,⟨p,h2⟩⟩
  |false=>obtain⟨v,s',h1,h2⟩:=h;exact⟨_,_,by rw[hs];exact h1,⟨p,h2⟩⟩
noncomputable def ya:List (aQ×Fn):=(804,Cb)::Cj
def sD:Fn:=sF "fetch_single" ya 11 b0
def sE:Fn:=sF "fetch_double" ya 11 b0
noncomputable def yb:List (aQ×Fn):=(790,wx sD f_)::(797,wx sE f_)::ya
def fM:Fn:=sF "fetch_more_tokens" yb 12 b0
noncomputable def yc:List (aQ×Fn):=(587,wx fM f_)::yb
noncomputable def vk:aG:=mS "get_token"
noncomputable def vl:aG:=eU (cC (aU vk)) 0
def jK:aq→au:=gE (GW vk yc [] 13) (fK vl) (bS vl)
def fP:Fn:=dO (GW vk yc [(vl.pos.line,tv jK nX)] 13) (aU vk) b0
theorem bY.g{W:Wd}{X:bU}{G:aX}{cA:aG}{F:Lp}{α:Type}{sh:FS→α→FS}(H:bY W X G cA F):bY W X G cA (yY F sh):=H.by λst k r h=>by
 obtain⟨p,a,s,h1,h2⟩:=h
 exact⟨_,_,h1,p,h2⟩
section
variable{W:Wd}(hK:W.K=K W.w.params)
include hK
theorem Q4:bH W (FX W) 9 ae 825 (wd sj f_):=(fN hK (iW hK) (OT hK) (by decide) (by kernel_rfl)).wd
theorem Q1:bH W (FX W) 9 ae 839 (wd uP V.bool):=(fN hK (iW hK) (OU hK) (by decide) (by kernel_rfl)).wd
theorem abm:bH W (FX W) 9 ae 615 (wk nP):=(fN hK (iW hK) (OK hK) (by decide) (by kernel_rfl)).wk
theorem PI:bH W (FX W) 9 ae 629 (wd oG V.bool):=(fN hK (iW hK) (OM hK) (by decide) (by kernel_rfl)).wd
theorem YW:bH W (FX W) 9 ae 594 (wo tC V.int):=(g9 hK (bnd:=b0) (OH hK) (by decide) (iW hK) (loops:=[(md.pos.line,Ej)]) (jQ (G:=GW rj eE [] 8) (F:=Ej) (cA:=.For (.Name (NA (eI md)) (NB (eI md))) (eX md) (bS md) [] md.pos) (by kernel_rfl) (by kernel_rfl) (bY.o6 (G:=GW rj eE [] 8) (l:=[]) (T3 (mD hK rj [] (by decide) (iW hK)) rfl)))).wo
theorem acC:bH W (FX W) 9 ae 601 (wd mx f_):=(g9 hK (bnd:=b0) (OI hK) (by decide) (iW hK) (loops:=[(jd.pos.line,yY tW nW)]) (jQ (G:=GW stM eE [] 8) (F:=yY tW nW) (cA:=.For (eI jd) (eX jd) (bS jd) [] jd.pos) (by kernel_rfl) (by kernel_rfl) (bY.g (bY.o6 (G:=GW stM eE [] 8) (l:=[]) (Cp (mD hK stM [] (by decide) (iW hK)) (ji W) (rC W) rfl (l_ (by kernel_rfl))))))).wd
theorem ad1:bH W (FX W) 9 ae 622 (wd rW f_):=(g9 hK (bnd:=bI) (OL hK) (by decide) (iW hK) (loops:=[(xa.pos.line,gR p8 nW)]) (jQ (G:=GW w_ eE [] 8) (F:=gR p8 nW) (cA:=j3 xa) (by kernel_rfl) (by kernel_rfl) (bY.n (pv hK (iW hK) (by decide) (by kernel_rfl) _)))).wd
theorem aci:bH W (FX W) 9 ae 867 (wd fk f_):=(g9 hK (bnd:=b0) (OW hK) (by decide) (iW hK) (loops:=[(rN.pos.line,gR kB nW)]) (jQ (G:=GW pX eE [] 8) (F:=gR kB nW) (cA:=j3 rN) (by kernel_rfl) (by kernel_rfl) (bY.n (vX hK (by decide) (iW hK) (Km (G:=GW pX eE [] 8) (l:=MZ) (s:=j3 Aj) (t:=j3 Ak) (F:=gR rM nX) (F' :=gR M0 nX) (by kernel_rfl) (by kernel_rfl) (bY.n (pv hK (iW hK) (by decide) (by kernel_rfl) _)) (by kernel_rfl) (bY.n (pv hK (iW hK) (by decide) (by kernel_rfl) _))) _)))).wd
theorem u9:cK W 9 sJ:=
 ((((((((((iW hK).mono (by decide)).cons (cE hK (by kernel_rfl)) (aci hK) (by decide)).cons (cE hK (by kernel_rfl)) (ad1 hK) (by decide)).cons (cE hK (by kernel_rfl)) (acC hK) (by decide)).cons (cE hK (by kernel_rfl)) (YW hK) (by decide)).cons (cE hK (by kernel_rfl)) (PI hK) (by decide)).cons (cE hK (by kernel_rfl)) (abm hK) (by decide)).cons (cE hK (by kernel_rfl)) (Q1 hK) (by decide)).cons (cE hK (by kernel_rfl)) (Q4 hK) (by decide))
theorem adb:bH W (FX W) 10 ae 608 (wd tY f_):=(fN hK (u9 hK) (OJ hK) (by decide) (by kernel_rfl)).wd
theorem Ta:bH W (FX W) 10 ae 643 (wd uZ f_):=(fN hK (u9 hK) (OO hK) (by decide) (by kernel_rfl)).wd
theorem S9:bH W (FX W) 10 ae 727 (wd qC f_):=(fN hK (u9 hK) (OP hK) (by decide) (by kernel_rfl)).wd
theorem YY:bH W (FX W) 10 ae 580 (wo lz V.bool):=(fN hK (u9 hK) (OE hK) (by decide) (by kernel_rfl)).wo
theorem Iu:cK W 10 Cj:=
 (((((u9 hK).mono (by decide)).cons (cE hK (by kernel_rfl)) (YY hK) (by decide)).cons (cE hK (by kernel_rfl)) (S9 hK) (by decide)).cons (cE hK (by kernel_rfl)) (Ta hK) (by decide)).cons (cE hK (by kernel_rfl)) (adb hK) (by decide)
theorem Tf:bH W (FX W) 11 ae 804 Cb:=(fN hK (Iu hK) (OS hK) (by decide) (by kernel_rfl)).ff
theorem Ck:cK W 11 ya:=((Iu hK).mono (by decide)).cons (cE hK (by kernel_rfl)) (Tf hK) (by decide)
theorem SU:bH W (FX W) 12 ae 790 (wx sD f_):=(fN hK (Ck hK) (OQ hK) (by decide) (by kernel_rfl)).wx
theorem SY:bH W (FX W) 12 ae 797 (wx sE f_):=(fN hK (Ck hK) (OR hK) (by decide) (by kernel_rfl)).wx
theorem Iv:cK W 12 yb:=(((Ck hK).mono (by decide)).cons (cE hK (by kernel_rfl)) (SY hK) (by decide)).cons (cE hK (by kernel_rfl)) (SU hK) (by decide)
theorem TC:bH W (FX W) 13 ae 587 (wx fM f_):=(fN hK (Iv hK) (OG hK) (by decide) (by kernel_rfl)).wx
theorem Iy:cK W 13 yc:=((Iv hK).mono (by decide)).cons (cE hK (by kernel_rfl)) (TC hK) (by decide)
theorem Vb:bH W (FX W) 14 ae 573 (wx fP id):=(g9 hK (bnd:=b0) (OD hK) (by decide) (Iy hK) (loops:=[(vl.pos.line,tv jK nX)]) (jQ (G:=GW vk yc [] 13) (F:=tv jK nX) (cA:=j3 vl) (by kernel_rfl) (by kernel_rfl) (bY.x (pv hK (Iy hK) (by decide) (by kernel_rfl) _)))).wx
end
inductive Sc.aO(s:Sc)(t:List Nat):Prop
 |mk (u:List Nat) (b:s.buf=u++t) (p:s.ptr=u.length)
theorem PQ{u t:List Nat}{i c:Nat}(h:t[i]?=ag c):(u++t).getD (u.length+i) 0=c:=by
 rw[ER,Z8 (dh _ _),Nat.add_sub_cancel_left,h];rfl
theorem lq(n:Nat):bO 0 (n:Int)=ae:=decide_eq_true (zR n)
theorem Sc.aO.at{s:Sc}{t:List Nat}(H:s.aO t){i:Nat}{c:Nat}(h:t[i]?=ag c):s.at (i:Int)=ag c:=by
 obtain⟨u,b,p⟩:=H
 unfold Sc.at
 rw[p,b,←Int.natCast_add,rx,PQ h]
 refine ez (lq _) (ez (decide_eq_true (Int.ofNat_lt.mpr ?_)) rfl)
 rw[bE]
 exact Nat.add_lt_add_left (List.getElem?_eq_some_iff.mp h).1 _
theorem Sc.aO.pre{s:Sc}{t:List Nat}(H:s.aO t)(n:Nat):s.pre (n:Int)=ag (t.take n):=by
 obtain⟨u,b,p⟩:=H
 unfold Sc.pre Sc.cut
 rw[p,b,←Int.natCast_add,rx,rx,List.take_length_add_append,List.drop_left]
 exact ez (by rw[lq u.length,lq (u.length+n)];rfl) rfl
noncomputable def mN(c:Nat)(t:List Nat):Bool:=vM c||(aB [c] [13]&& !(cv t af λd _=>aB [d] [10]))
noncomputable def fO(c:Nat)(t:List Nat)(s:Sc):Sc:=br (mN c t) s.down (s.over c)
theorem U6(s:Sc)(c:Nat)(t:List Nat):(fO c t s).ptr=s.ptr+1∧(fO c t s).buf=s.buf:=by
 unfold fO
 cases mN c t with
 |true=>exact⟨rfl,rfl⟩
 |false=>
  show(s.over c).ptr=_∧(s.over c).buf=_
  unfold Sc.over
  cases aB [c] [65279]<;>exact⟨rfl,rfl⟩
theorem Sc.aO.step{s:Sc}{c d:Nat}{t:List Nat}(H:s.aO (c::d::t)):s.step=ag (fO c (d::t) s)∧(fO c (d::t) s).aO (d::t):=by
 constructor
 ·refine fC (H.at (i:=0) rfl) ?_
  unfold fO mN
  cases vM c with
  |true=>rfl
  |false=>cases aB [c] [13]with
   |false=>rfl
   |true=>
    refine(fC (H.at (i:=1) rfl) ?_:ob (s.at 1) _=_)
    show br (aB [d] [10]) _ _=ag (br (af||(ae&& !(aB [d] [10]))) s.down (s.over c))
    cases aB [d] [10]<;>rfl
 ·obtain⟨e1,e2⟩:=U6 s c (d::t)
  obtain⟨u,b,p⟩:=H
  exact⟨u++[c],by rw[e2,b,aR];rfl,by rw[e1,p,bE];rfl⟩
noncomputable def aK:List Nat→List Nat→Sc→Sc
 | [],_,s=>s
 |c::w,t,s=>aK w t (fO c (w++t) s)
theorem Sc.aO.fwd:∀(w:List Nat){s:Sc}{d:Nat}{t:List Nat},s.aO (w++d::t)→s.fwd w.length=ag (aK w (d::t) s)∧(aK w (d::t) s).aO (d::t)
 | [],s,d,t,H=>⟨rfl,H⟩
 | [c],s,d,t,H=>by
  obtain⟨h1,h2⟩:=H.step
  exact⟨fC h1 rfl,h2⟩
 |c::e::w,s,d,t,H=>by
  obtain⟨h1,h2⟩:=H.step (t:=w++d::t)
  obtain⟨h3,h4⟩:=Sc.aO.fwd (e::w) h2
  exact⟨fC h1 h3,h4⟩
theorem Sc.aO.mH{s:Sc}{u t:List Nat}{c n:Nat}(H:s.aO (u++c::t))(hu:u.length=n):s.at (n:Int)=ag c:=H.at (by rw[←hu,Z8 (eF _),Nat.sub_self];rfl)
theorem me{b:Bool}(h:b=ae):(!b)=af:=by rw[h];rfl
theorem rn{b:Bool}(h:b=af):(!b)=ae:=by rw[h];rfl
theorem kM{w t:List Nat}{c:Nat}:w++c::t≠[]:=λe=>by cases w<;>exact nomatch e
theorem Sc.aO.dz(w:List Nat){s:Sc}{t:List Nat}(H:s.aO (w++t))(ht:t≠[]):s.fwd w.length=ag (aK w t s)∧(aK w t s).aO t:=by
 cases t with
 |nil=>exact absurd rfl ht
 |cons d t=>exact Sc.aO.fwd w H
theorem hJ:∀(u v t:List Nat)(s:Sc),aK (u++v) t s=aK v t (aK u (v++t) s)
 | [],_,_,_=>rfl
 |c::u,v,t,s=>by
  show aK (u++v) t (fO c ((u++v)++t) s)=aK v t (aK u (v++t) (fO c (u++(v++t)) s))
  rw[hJ u v t,aR]
theorem Sc.aO.df{s:Sc}{c:Nat}{t:List Nat}(H:s.aO (c::t)):s.at 0=ag c:=H.at (i:=0) rfl
theorem Sc.aO.Be{s:Sc}{c d:Nat}{t:List Nat}(H:s.aO (c::d::t)):s.at 1=ag d:=H.at (i:=1) rfl
theorem Sc.aO.bu{s:Sc}{a b c d:Nat}{t:List Nat}(H:s.aO (a::b::c::d::t)):s.at 3=ag d:=H.at (i:=3) rfl
noncomputable def E0:Str:=ai "prefix"
noncomputable def fg(s:Sc)(d m c:FV):aq:=⟨[(b9,.v .ak),(ai "double",d),(ai "start_mark",m),(iS,c)],ak s,af⟩
noncomputable def b5(s:Sc)(d m c x:FV):aq:=⟨[(b9,.v .ak),(ai "double",d),(ai "start_mark",m),(iS,c),(E0,x)],ak s,af⟩
inductive jG(cm pm:V):V→Prop
 |mk (a b:V):jG cm pm (.obj 511 (kb a cm b pm))
theorem ab1(s:Sc)(k:Res→Self→au){r:R}:∀⦃y1⦄(h2:(Sc.at s 0)=ag y1)(h3:(ax [13,10,133] y1)=ae)⦃y4⦄(h5:(Sc.pre s 2)=ag y4)(h6:(aB y4 [13,10])=ae)⦃y7⦄(h8:(Sc.fwd (a9 2) s)=ag y7)(hk:Gv (k (.ok (V.str [10])) (ak y7)) r),Gv (d8 [.ak] [] (ak s) k) r:=
 Gv.to (E:=λ_=>op _ λ_=>_∧op _ λ_=>_∧op _ λ_=>_) (λp=>ae::ae::p) (λ_=>by kernel_rfl) λg y1 h2 h3 y4 h5 h6 y7 h8 hk=>g hk λp hk=>(az h2 (aj h3 (az h5 (aj h6 (az h8 hk)))))
theorem ab2(s:Sc)(k:Res→Self→au){r:R}:∀⦃y1⦄(h2:(Sc.at s 0)=ag y1)(h3:(ax [13,10,133] y1)=ae)⦃y4⦄(h5:(Sc.pre s 2)=ag y4)(h6:(aB y4 [13,10])=af)⦃y7⦄(h8:(Sc.fwd (a9 1) s)=ag y7)(hk:Gv (k (.ok (V.str [10])) (ak y7)) r),Gv (d8 [.ak] [] (ak s) k) r:=
 Gv.to (E:=λ_=>op _ λ_=>_∧op _ λ_=>_∧op _ λ_=>_) (λp=>ae::af::p) (λ_=>by kernel_rfl) λg y1 h2 h3 y4 h5 h6 y7 h8 hk=>g hk λp hk=>(az h2 (aj h3 (az h5 (aj h6 (az h8 hk)))))
theorem ab3(s:Sc)(k:Res→Self→au){r:R}:∀⦃y1⦄(h2:(Sc.at s 0)=ag y1)(h3:(ax [13,10,133] y1)=af)(h4:(ax [8232,8233] y1)=ae)⦃y5⦄(h6:(Sc.fwd (a9 1) s)=ag y5)(hk:Gv (k (.ok (V.str ([y1]))) (ak y5)) r),Gv (d8 [.ak] [] (ak s) k) r:=
 Gv.to (E:=λ_=>op _ λ_=>_∧_∧op _ λ_=>_) (λp=>af::ae::p) (λ_=>by kernel_rfl) λg y1 h2 h3 h4 y5 h6 hk=>g hk λp hk=>(az h2 (aj h3 (aj h4 (az h6 hk))))
theorem ab4(s:Sc)(k:Res→Self→au){r:R}:∀⦃y1⦄(h2:(Sc.at s 0)=ag y1)(h3:(ax [13,10,133] y1)=af)(h4:(ax [8232,8233] y1)=af)(hk:Gv (k (.ok (V.str [])) (ak s)) r),Gv (d8 [.ak] [] (ak s) k) r:=
 Gv.to (E:=λ_=>op _ λ_=>_) (λp=>af::af::p) (λ_=>by kernel_rfl) λg y1 h2 h3 h4 hk=>g hk λp hk=>(az h2 (aj h3 (aj h4 hk)))
theorem P9(s:Sc)(loc:FS){r:R}:∀⦃y1⦄(h2:(Sc.at s 0)=ag y1)(h3:(ax [32,9] y1)=ae)⦃y4⦄(h5:(Sc.fwd (a9 1) s)=ag y4)(hr:r=(.next,⟨(((ai "self"),(.v V.ak))::loc),(ak y4),af⟩)),Gv (gi ⟨(b9,.v .ak)::loc,ak s,af⟩) r:=
 Gv.at (E:=op _ λ_=>_∧op _ λ_=>_) (ae::[]) (by kernel_rfl) λg y1 h2 h3 y4 h5 hr=>g (az h2 (aj h3 (az h5 hr)))
theorem P' (s:Sc)(loc:FS){r:R}:∀⦃y1⦄(h2:(Sc.at s 0)=ag y1)(h3:(ax [32,9] y1)=af)(hr:r=(.brk,⟨(((ai "self"),(.v V.ak))::loc),(ak s),af⟩)),Gv (gi ⟨(b9,.v .ak)::loc,ak s,af⟩) r:=
 Gv.at (E:=op _ λ_=>_) (af::[]) (by kernel_rfl) λg y1 h2 h3 hr=>g (az h2 (aj h3 hr))
theorem Qd(s:Sc)(d m:V)(l:List V)(x:FV){r:R}:∀⦃y1⦄(h2:(Sc.pre s 3)=ag y1)(h3:(aB y1 [45,45,45])=ae)⦃y4⦄(h5:(Sc.at s 3)=ag y4)(h6:(ax [0,32,9,13,10,133,8232,8233] y4)=ae)(h7:(d6 [(V.str (sL "while scanning a quoted scalar")),m,(V.str (sL "found unexpected document separator")),(Sc.mark s)])=ae)(hr:r=((.exc (V.obj 511 [((ai "context"),(V.str (sL "while scanning a quoted scalar"))),((ai "context_mark"),m),((ai "problem"),(V.str (sL "found unexpected document separator"))),((ai "problem_mark"),(Sc.mark s)),((ai "note"),V.none)])),(b5 s (.v d) (.v m) (.own l) (.v (V.str y1))))),Gv (dy (b5 s (.v d) (.v m) (.own l) x)) r:=
 Gv.at (E:=_∧op _ λ_=>_∧_∧op _ λ_=>_) (ae::ae::ae::ae::ae::[]) (by kernel_rfl) λg y1 h2 h3 y4 h5 h6 h7 hr=>g (aj tT (az h2 (aj h3 (aj tT (az h5 (aj h6 (aj tT (aM h7 hr))))))))
theorem Qe(s:Sc)(d m:V)(l:List V){r:R}:∀⦃y1⦄(h2:(Sc.pre s 3)=ag y1)(h3:(aB y1 [45,45,45])=ae)⦃y4⦄(h5:(Sc.at s 3)=ag y4)(h6:(ax [0,32,9,13,10,133,8232,8233] y4)=ae)(h7:(d6 [(V.str (sL "while scanning a quoted scalar")),m,(V.str (sL "found unexpected document separator")),(Sc.mark s)])=ae)(hr:r=((.exc (V.obj 511 [((ai "context"),(V.str (sL "while scanning a quoted scalar"))),((ai "context_mark"),m),((ai "problem"),(V.str (sL "found unexpected document separator"))),((ai "problem_mark"),(Sc.mark s)),((ai "note"),V.none)])),(b5 s (.v d) (.v m) (.own l) (.v (V.str y1))))),Gv (dy (fg s (.v d) (.v m) (.own l))) r:=
 Gv.at (E:=_∧op _ λ_=>_∧_∧op _ λ_=>_) (ae::ae::ae::ae::ae::[]) (by kernel_rfl) λg y1 h2 h3 y4 h5 h6 h7 hr=>g (aj tT (az h2 (aj h3 (aj tT (az h5 (aj h6 (aj tT (aM h7 hr))))))))
theorem P_(s:Sc)(d m:V)(l:List V)(x:FV){r:R}:∀⦃y1⦄(h2:(Sc.pre s 3)=ag y1)(h3:(aB y1 [45,45,45])=ae)⦃y4⦄(h5:(Sc.at s 3)=ag y4)(h6:(ax [0,32,9,13,10,133,8232,8233] y4)=af)⦃s8⦄(h9:(Gv (bo gi (b5 s (.v d) (.v m) (.own l) (.v (V.str y1)))) (.next,(b5 s8 (.v d) (.v m) (.own l) (.v (V.str y1))))))⦃dq⦄(cq:(Sc.at s8 0)=ag dq)(bf:(ax [13,10,133,8232,8233] dq)=ae)⦃cP⦄⦃cy⦄(dt:(Gives d8 [V.ak] s8 (.ok (V.str cP)) cy))(eY:(aJ (av l) aZ)=ae)(hr:r=(.next,(b5 cy (.v d) (.v m) (.own (bp l [(V.str cP)])) (.v (V.str y1))))),Gv (dy (b5 s (.v d) (.v m) (.own l) x)) r:=
 Gv.at (E:=_∧op _ λ_=>_∧_∧op _ λ_=>_∧_∧dE (∃_,_∧op _ λ_=>_∧∃_,∃_,_)) (ae::ae::ae::af::af::ae::[]) (by kernel_rfl) λg y1 h2 h3 y4 h5 h6 s8 h9 dq cq bf cP cy dt eY hr=>g (aj tT (az h2 (aj h3 (aj tT (az h5 (aj h6 (aj tF (dI (aC s8 (aj h9 (az cq (aj bf (aC cP (aC cy (aj dt (aM eY hr))))))))))))))))
theorem Qa(s:Sc)(d m:V)(l:List V){r:R}:∀⦃y1⦄(h2:(Sc.pre s 3)=ag y1)(h3:(aB y1 [45,45,45])=ae)⦃y4⦄(h5:(Sc.at s 3)=ag y4)(h6:(ax [0,32,9,13,10,133,8232,8233] y4)=af)⦃s8⦄(h9:(Gv (bo gi (b5 s (.v d) (.v m) (.own l) (.v (V.str y1)))) (.next,(b5 s8 (.v d) (.v m) (.own l) (.v (V.str y1))))))⦃dq⦄(cq:(Sc.at s8 0)=ag dq)(bf:(ax [13,10,133,8232,8233] dq)=ae)⦃cP⦄⦃cy⦄(dt:(Gives d8 [V.ak] s8 (.ok (V.str cP)) cy))(eY:(aJ (av l) aZ)=ae)(hr:r=(.next,(b5 cy (.v d) (.v m) (.own (bp l [(V.str cP)])) (.v (V.str y1))))),Gv (dy (fg s (.v d) (.v m) (.own l))) r:=
 Gv.at (E:=_∧op _ λ_=>_∧_∧op _ λ_=>_∧_∧dE (∃_,_∧op _ λ_=>_∧∃_,∃_,_)) (ae::ae::ae::af::af::ae::[]) (by kernel_rfl) λg y1 h2 h3 y4 h5 h6 s8 h9 dq cq bf cP cy dt eY hr=>g (aj tT (az h2 (aj h3 (aj tT (az h5 (aj h6 (aj tF (dI (aC s8 (aj h9 (az cq (aj bf (aC cP (aC cy (aj dt (aM eY hr))))))))))))))))
theorem Qb(s:Sc)(d m:V)(l:List V)(x:FV){r:R}:∀⦃y1⦄(h2:(Sc.pre s 3)=ag y1)(h3:(aB y1 [45,45,45])=ae)⦃y4⦄(h5:(Sc.at s 3)=ag y4)(h6:(ax [0,32,9,13,10,133,8232,8233] y4)=af)⦃s8⦄(h9:(Gv (bo gi (b5 s (.v d) (.v m) (.own l) (.v (V.str y1)))) (.next,(b5 s8 (.v d) (.v m) (.own l) (.v (V.str y1))))))⦃dq⦄(cq:(Sc.at s8 0)=ag dq)(bf:(ax [13,10,133,8232,8233] dq)=af)(hr:r=((.ret (V.lst l)),(b5 s8 (.v d) (.v m) (.v (V.lst l)) (.v (V.str y1))))),Gv (dy (b5 s (.v d) (.v m) (.own l) x)) r:=
 Gv.at (E:=_∧op _ λ_=>_∧_∧op _ λ_=>_∧_∧dE (∃_,_∧op _ λ_=>_)) (ae::ae::ae::af::af::af::[]) (by kernel_rfl) λg y1 h2 h3 y4 h5 h6 s8 h9 dq cq bf hr=>g (aj tT (az h2 (aj h3 (aj tT (az h5 (aj h6 (aj tF (dI (aC s8 (aj h9 (az cq (aj bf hr))))))))))))
theorem Qc(s:Sc)(d m:V)(l:List V){r:R}:∀⦃y1⦄(h2:(Sc.pre s 3)=ag y1)(h3:(aB y1 [45,45,45])=ae)⦃y4⦄(h5:(Sc.at s 3)=ag y4)(h6:(ax [0,32,9,13,10,133,8232,8233] y4)=af)⦃s8⦄(h9:(Gv (bo gi (b5 s (.v d) (.v m) (.own l) (.v (V.str y1)))) (.next,(b5 s8 (.v d) (.v m) (.own l) (.v (V.str y1))))))⦃dq⦄(cq:(Sc.at s8 0)=ag dq)(bf:(ax [13,10,133,8232,8233] dq)=af)(hr:r=((.ret (V.lst l)),(b5 s8 (.v d) (.v m) (.v (V.lst l)) (.v (V.str y1))))),Gv (dy (fg s (.v d) (.v m) (.own l))) r:=
 Gv.at (E:=_∧op _ λ_=>_∧_∧op _ λ_=>_∧_∧dE (∃_,_∧op _ λ_=>_)) (ae::ae::ae::af::af::af::[]) (by kernel_rfl) λg y1 h2 h3 y4 h5 h6 s8 h9 dq cq bf hr=>g (aj tT (az h2 (aj h3 (aj tT (az h5 (aj h6 (aj tF (dI (aC s8 (aj h9 (az cq (aj bf hr))))))))))))
theorem Qj(s:Sc)(d m:V)(l:List V)(x:FV){r:R}:∀⦃y1⦄(h2:(Sc.pre s 3)=ag y1)(h3:(aB y1 [45,45,45])=af)(h4:(aB y1 [46,46,46])=ae)⦃y5⦄(h6:(Sc.at s 3)=ag y5)(h7:(ax [0,32,9,13,10,133,8232,8233] y5)=ae)(h8:(d6 [(V.str (sL "while scanning a quoted scalar")),m,(V.str (sL "found unexpected document separator")),(Sc.mark s)])=ae)(hr:r=((.exc (V.obj 511 [((ai "context"),(V.str (sL "while scanning a quoted scalar"))),((ai "context_mark"),m),((ai "problem"),(V.str (sL "found unexpected document separator"))),((ai "problem_mark"),(Sc.mark s)),((ai "note"),V.none)])),(b5 s (.v d) (.v m) (.own l) (.v (V.str y1))))),Gv (dy (b5 s (.v d) (.v m) (.own l) x)) r:=
 Gv.at (E:=_∧op _ λ_=>_∧_∧_∧op _ λ_=>_) (ae::af::ae::ae::ae::ae::[]) (by kernel_rfl) λg y1 h2 h3 h4 y5 h6 h7 h8 hr=>g (aj tT (az h2 (aj h3 (aj h4 (aj tT (az h6 (aj h7 (aj tT (aM h8 hr)))))))))
theorem Qk(s:Sc)(d m:V)(l:List V){r:R}:∀⦃y1⦄(h2:(Sc.pre s 3)=ag y1)(h3:(aB y1 [45,45,45])=af)(h4:(aB y1 [46,46,46])=ae)⦃y5⦄(h6:(Sc.at s 3)=ag y5)(h7:(ax [0,32,9,13,10,133,8232,8233] y5)=ae)(h8:(d6 [(V.str (sL "while scanning a quoted scalar")),m,(V.str (sL "found unexpected document separator")),(Sc.mark s)])=ae)(hr:r=((.exc (V.obj 511 [((ai "context"),(V.str (sL "while scanning a quoted scalar"))),((ai "context_mark"),m),((ai "problem"),(V.str (sL "found unexpected document separator"))),((ai "problem_mark"),(Sc.mark s)),((ai "note"),V.none)])),(b5 s (.v d) (.v m) (.own l) (.v (V.str y1))))),Gv (dy (fg s (.v d) (.v m) (.own l))) r:=
 Gv.at (E:=_∧op _ λ_=>_∧_∧_∧op _ λ_=>_) (ae::af::ae::ae::ae::ae::[]) (by kernel_rfl) λg y1 h2 h3 h4 y5 h6 h7 h8 hr=>g (aj tT (az h2 (aj h3 (aj h4 (aj tT (az h6 (aj h7 (aj tT (aM h8 hr)))))))))
theorem Qf(s:Sc)(d m:V)(l:List V)(x:FV){r:R}:∀⦃y1⦄(h2:(Sc.pre s 3)=ag y1)(h3:(aB y1 [45,45,45])=af)(h4:(aB y1 [46,46,46])=ae)⦃y5⦄(h6:(Sc.at s 3)=ag y5)(h7:(ax [0,32,9,13,10,133,8232,8233] y5)=af)⦃s9⦄(aY:(Gv (bo gi (b5 s (.v d) (.v m) (.own l) (.v (V.str y1)))) (.next,(b5 s9 (.v d) (.v m) (.own l) (.v (V.str y1))))))⦃b8⦄(bf:(Sc.at s9 0)=ag b8)(dg:(ax [13,10,133,8232,8233] b8)=ae)⦃gf⦄⦃nQ⦄(eY:(Gives d8 [V.ak] s9 (.ok (V.str gf)) nQ))(hU:(aJ (av l) aZ)=ae)(hr:r=(.next,(b5 nQ (.v d) (.v m) (.own (bp l [(V.str gf)])) (.v (V.str y1))))),Gv (dy (b5 s (.v d) (.v m) (.own l) x)) r:=
 Gv.at (E:=_∧op _ λ_=>_∧_∧_∧op _ λ_=>_∧_∧dE (∃_,_∧op _ λ_=>_∧∃_,∃_,_)) (ae::af::ae::ae::af::af::ae::[]) (by kernel_rfl) λg y1 h2 h3 h4 y5 h6 h7 s9 aY b8 bf dg gf nQ eY hU hr=>g (aj tT (az h2 (aj h3 (aj h4 (aj tT (az h6 (aj h7 (aj tF (dI (aC s9 (aj aY (az bf (aj dg (aC gf (aC nQ (aj eY (aM hU hr)))))))))))))))))
theorem Qg(s:Sc)(d m:V)(l:List V){r:R}:∀⦃y1⦄(h2:(Sc.pre s 3)=ag y1)(h3:(aB y1 [45,45,45])=af)(h4:(aB y1 [46,46,46])=ae)⦃y5⦄(h6:(Sc.at s 3)=ag y5)(h7:(ax [0,32,9,13,10,133,8232,8233] y5)=af)⦃s9⦄(aY:(Gv (bo gi (b5 s (.v d) (.v m) (.own l) (.v (V.str y1)))) (.next,(b5 s9 (.v d) (.v m) (.own l) (.v (V.str y1))))))⦃b8⦄(bf:(Sc.at s9 0)=ag b8)(dg:(ax [13,10,133,8232,8233] b8)=ae)⦃gf⦄⦃nQ⦄(eY:(Gives d8 [V.ak] s9 (.ok (V.str gf)) nQ))(hU:(aJ (av l) aZ)=ae)(hr:r=(.next,(b5 nQ (.v d) (.v m) (.own (bp l [(V.str gf)])) (.v (V.str y1))))),Gv (dy (fg s (.v d) (.v m) (.own l))) r:=
 Gv.at (E:=_∧op _ λ_=>_∧_∧_∧op _ λ_=>_∧_∧dE (∃_,_∧op _ λ_=>_∧∃_,∃_,_)) (ae::af::ae::ae::af::af::ae::[]) (by kernel_rfl) λg y1 h2 h3 h4 y5 h6 h7 s9 aY b8 bf dg gf nQ eY hU hr=>g (aj tT (az h2 (aj h3 (aj h4 (aj tT (az h6 (aj h7 (aj tF (dI (aC s9 (aj aY (az bf (aj dg (aC gf (aC nQ (aj eY (aM hU hr)))))))))))))))))
theorem Qh(s:Sc)(d m:V)(l:List V)(x:FV){r:R}:∀⦃y1⦄(h2:(Sc.pre s 3)=ag y1)(h3:(aB y1 [45,45,45])=af)(h4:(aB y1 [46,46,46])=ae)⦃y5⦄(h6:(Sc.at s 3)=ag y5)(h7:(ax [0,32,9,13,10,133,8232,8233] y5)=af)⦃s9⦄(aY:(Gv (bo gi (b5 s (.v d) (.v m) (.own l) (.v (V.str y1)))) (.next,(b5 s9 (.v d) (.v m) (.own l) (.v (V.str y1))))))⦃b8⦄(bf:(Sc.at s9 0)=ag b8)(dg:(ax [13,10,133,8232,8233] b8)=af)(hr:r=((.ret (V.lst l)),(b5 s9 (.v d) (.v m) (.v (V.lst l)) (.v (V.str y1))))),Gv (dy (b5 s (.v d) (.v m) (.own l) x)) r:=
 Gv.at (E:=_∧op _ λ_=>_∧_∧_∧op _ λ_=>_∧_∧dE (∃_,_∧op _ λ_=>_)) (ae::af::ae::ae::af::af::af::[]) (by kernel_rfl) λg y1 h2 h3 h4 y5 h6 h7 s9 aY b8 bf dg hr=>g (aj tT (az h2 (aj h3 (aj h4 (aj tT (az h6 (aj h7 (aj tF (dI (aC s9 (aj aY (az bf (aj dg hr)))))))))))))
theorem Qi(s:Sc)(d m:V)(l:List V){r:R}:∀⦃y1⦄(h2:(Sc.pre s 3)=ag y1)(h3:(aB y1 [45,45,45])=af)(h4:(aB y1 [46,46,46])=ae)⦃y5⦄(h6:(Sc.at s 3)=ag y5)(h7:(ax [0,32,9,13,10,133,8232,8233] y5)=af)⦃s9⦄(aY:(Gv (bo gi (b5 s (.v d) (.v m) (.own l) (.v (V.str y1)))) (.next,(b5 s9 (.v d) (.v m) (.own l) (.v (V.str y1))))))⦃b8⦄(bf:(Sc.at s9 0)=ag b8)(dg:(ax [13,10,133,8232,8233] b8)=af)(hr:r=((.ret (V.lst l)),(b5 s9 (.v d) (.v m) (.v (V.lst l)) (.v (V.str y1))))),Gv (dy (fg s (.v d) (.v m) (.own l))) r:=
 Gv.at (E:=_∧op _ λ_=>_∧_∧_∧op _ λ_=>_∧_∧dE (∃_,_∧op _ λ_=>_)) (ae::af::ae::ae::af::af::af::[]) (by kernel_rfl) λg y1 h2 h3 h4 y5 h6 h7 s9 aY b8 bf dg hr=>g (aj tT (az h2 (aj h3 (aj h4 (aj tT (az h6 (aj h7 (aj tF (dI (aC s9 (aj aY (az bf (aj dg hr)))))))))))))
theorem Ql(s:Sc)(d m:V)(l:List V)(x:FV){r:R}:∀⦃y1⦄(h2:(Sc.pre s 3)=ag y1)(h3:(aB y1 [45,45,45])=af)(h4:(aB y1 [46,46,46])=af)⦃s6⦄(h7:(Gv (bo gi (b5 s (.v d) (.v m) (.own l) (.v (V.str y1)))) (.next,(b5 s6 (.v d) (.v m) (.own l) (.v (V.str y1))))))⦃y8⦄(h9:(Sc.at s6 0)=ag y8)(aY:(ax [13,10,133,8232,8233] y8)=ae)⦃gZ⦄⦃gD⦄(dg:(Gives d8 [V.ak] s6 (.ok (V.str gZ)) gD))(hM:(aJ (av l) aZ)=ae)(hr:r=(.next,(b5 gD (.v d) (.v m) (.own (bp l [(V.str gZ)])) (.v (V.str y1))))),Gv (dy (b5 s (.v d) (.v m) (.own l) x)) r:=
 Gv.at (E:=_∧op _ λ_=>_∧_∧_∧_∧dE (∃_,_∧op _ λ_=>_∧∃_,∃_,_)) (ae::af::af::af::af::ae::[]) (by kernel_rfl) λg y1 h2 h3 h4 s6 h7 y8 h9 aY gZ gD dg hM hr=>g (aj tT (az h2 (aj h3 (aj h4 (aj tF (aj tF (dI (aC s6 (aj h7 (az h9 (aj aY (aC gZ (aC gD (aj dg (aM hM hr)))))))))))))))
theorem Qm(s:Sc)(d m:V)(l:List V){r:R}:∀⦃y1⦄(h2:(Sc.pre s 3)=ag y1)(h3:(aB y1 [45,45,45])=af)(h4:(aB y1 [46,46,46])=af)⦃s6⦄(h7:(Gv (bo gi (b5 s (.v d) (.v m) (.own l) (.v (V.str y1)))) (.next,(b5 s6 (.v d) (.v m) (.own l) (.v (V.str y1))))))⦃y8⦄(h9:(Sc.at s6 0)=ag y8)(aY:(ax [13,10,133,8232,8233] y8)=ae)⦃gZ⦄⦃gD⦄(dg:(Gives d8 [V.ak] s6 (.ok (V.str gZ)) gD))(hM:(aJ (av l) aZ)=ae)(hr:r=(.next,(b5 gD (.v d) (.v m) (.own (bp l [(V.str gZ)])) (.v (V.str y1))))),Gv (dy (fg s (.v d) (.v m) (.own l))) r:=
 Gv.at (E:=_∧op _ λ_=>_∧_∧_∧_∧dE (∃_,_∧op _ λ_=>_∧∃_,∃_,_)) (ae::af::af::af::af::ae::[]) (by kernel_rfl) λg y1 h2 h3 h4 s6 h7 y8 h9 aY gZ gD dg hM hr=>g (aj tT (az h2 (aj h3 (aj h4 (aj tF (aj tF (dI (aC s6 (aj h7 (az h9 (aj aY (aC gZ (aC gD (aj dg (aM hM hr)))))))))))))))
theorem Qn(s:Sc)(d m:V)(l:List V)(x:FV){r:R}:∀⦃y1⦄(h2:(Sc.pre s 3)=ag y1)(h3:(aB y1 [45,45,45])=af)(h4:(aB y1 [46,46,46])=af)⦃s6⦄(h7:(Gv (bo gi (b5 s (.v d) (.v m) (.own l) (.v (V.str y1)))) (.next,(b5 s6 (.v d) (.v m) (.own l) (.v (V.str y1))))))⦃y8⦄(h9:(Sc.at s6 0)=ag y8)(aY:(ax [13,10,133,8232,8233] y8)=af)(hr:r=((.ret (V.lst l)),(b5 s6 (.v d) (.v m) (.v (V.lst l)) (.v (V.str y1))))),Gv (dy (b5 s (.v d) (.v m) (.own l) x)) r:=
 Gv.at (E:=_∧op _ λ_=>_∧_∧_∧_∧dE (∃_,_∧op _ λ_=>_)) (ae::af::af::af::af::af::[]) (by kernel_rfl) λg y1 h2 h3 h4 s6 h7 y8 h9 aY hr=>g (aj tT (az h2 (aj h3 (aj h4 (aj tF (aj tF (dI (aC s6 (aj h7 (az h9 (aj aY hr)))))))))))
theorem Qo(s:Sc)(d m:V)(l:List V){r:R}:∀⦃y1⦄(h2:(Sc.pre s 3)=ag y1)(h3:(aB y1 [45,45,45])=af)(h4:(aB y1 [46,46,46])=af)⦃s6⦄(h7:(Gv (bo gi (b5 s (.v d) (.v m) (.own l) (.v (V.str y1)))) (.next,(b5 s6 (.v d) (.v m) (.own l) (.v (V.str y1))))))⦃y8⦄(h9:(Sc.at s6 0)=ag y8)(aY:(ax [13,10,133,8232,8233] y8)=af)(hr:r=((.ret (V.lst l)),(b5 s6 (.v d) (.v m) (.v (V.lst l)) (.v (V.str y1))))),Gv (dy (fg s (.v d) (.v m) (.own l))) r:=
 Gv.at (E:=_∧op _ λ_=>_∧_∧_∧_∧dE (∃_,_∧op _ λ_=>_)) (ae::af::af::af::af::af::[]) (by kernel_rfl) λg y1 h2 h3 h4 s6 h7 y8 h9 aY hr=>g (aj tT (az h2 (aj h3 (aj h4 (aj tF (aj tF (dI (aC s6 (aj h7 (az h9 (aj aY hr)))))))))))
theorem Qw(s:Sc)(d m:V)(k:Res→Self→au){r:R}:∀⦃a1⦄⦃a2⦄⦃s3⦄(h4:(Gv (bo dy (fg s (.v d) (.v m) (.own []))) ((.ret (V.lst a1)),⟨a2,(ak s3),af⟩)))(hk:Gv (k (.ok (V.lst a1)) (ak s3)) r),Gv (jg [.ak,d,m] [] (ak s) k) r:=
 Gv.to (E:=λ_=>∃_,∃_,∃_,_) (λp=>ae::p) (λ_=>by kernel_rfl) λg a1 a2 s3 h4 hk=>g hk λp hk=>(aC a1 (aC a2 (aC s3 (aj h4 hk))))
theorem Qx(s:Sc)(d m:V)(k:Res→Self→au){r:R}:∀⦃v1⦄⦃a2⦄⦃s3⦄(h4:(Gv (bo dy (fg s (.v d) (.v m) (.own []))) ((.exc v1),⟨a2,(ak s3),af⟩)))(hk:Gv (k (.exc v1) (ak s3)) r),Gv (jg [.ak,d,m] [] (ak s) k) r:=
 Gv.to (E:=λ_=>∃_,∃_,∃_,_) (λp=>af::p) (λ_=>by kernel_rfl) λg v1 a2 s3 h4 hk=>g hk λp hk=>(aC v1 (aC a2 (aC s3 (aj h4 hk))))
inductive cH:List Nat→List Nat→List Nat→Prop where
 |crlf (t:List Nat):cH [13,10] [10] t
 |cr (t:List Nat) (h:∀r,t≠10::r):cH [13] [10] t
 |lf (t:List Nat):cH [10] [10] t
 |zm (t:List Nat):cH [133] [10] t
 |ls (t:List Nat):cH [8232] [8232] t
 |ps (t:List Nat):cH [8233] [8233] t
theorem Fj{s:Sc}{c d:Nat}{t:List Nat}(H:s.aO (c::d::t))(hc:ax [13,10,133] c=ae)(h2:aB [c,d] [13,10]=af):Gives d8 [.ak] s (.ok (.str [10])) (aK [c] (d::t) s):=ab2 s bA H.df hc (H.pre 2) h2 (Sc.aO.fwd [c] H).1 (Gv.leaf _)
theorem MY{s:Sc}{c d:Nat}{t:List Nat}(H:s.aO (c::d::t))(hc:ax [13,10,133] c=af)(h2:ax [8232,8233] c=ae):Gives d8 [.ak] s (.ok (.str [c])) (aK [c] (d::t) s):=ab3 s bA H.df hc h2 (Sc.aO.fwd [c] H).1 (Gv.leaf _)
theorem ab5{s:Sc}{c:Nat}{t:List Nat}(H:s.aO (c::t))(hc:ax [13,10,133] c=af)(h2:ax [8232,8233] c=af):Gives d8 [.ak] s (.ok (.str [])) s:=ab4 s bA H.df hc h2 (Gv.leaf _)
theorem wM{s:Sc}{w m t:List Nat}(B:cH w m t)(H:s.aO (w++t))(ht:t≠[]):Gives d8 [.ak] s (.ok (.str m)) (aK w t s):=by
 cases t with
 |nil=>exact absurd rfl ht
 |cons d t=>cases B with
  |crlf=>exact ab1 s bA H.df rfl (H.pre 2) rfl (Sc.aO.fwd [13,10] H).1 (Gv.leaf _)
  |cr _ h=>exact Fj H rfl (by
   show(match aH d 10 with|true=>ae|false=>af)=af
   cases q:aH d 10 with
   |false=>rfl
   |true=>exact absurd (by rw[bG q]) (h t))
  |lf=>exact Fj H rfl rfl
  |zm=>exact Fj H rfl rfl
  |ls=>exact MY H rfl rfl
  |ps=>exact MY H rfl rfl
def dr(w:List Nat):Prop:=∀x∈w,ax [32,9] x=ae
theorem Bm:∀(w:List Nat){s:Sc}{c:Nat}{t:List Nat}{loc:FS},s.aO (w++c::t)→dr w→ax [32,9] c=af→
 Gv (bo gi ⟨(b9,.v .ak)::loc,ak s,af⟩) (.next,⟨(b9,.v .ak)::loc,ak (aK w (c::t) s),af⟩)
 | [],s,c,t,loc,H,_,hc=>iG (P' s loc H.df hc rfl)
 |b::w,s,c,t,loc,H,hw,hc=>eZ (P9 s loc H.df (hw b (.head _)) (Sc.aO.dz [b] H kM).1 rfl) (Bm w (Sc.aO.dz [b] H kM).2 (λx hx=>hw x (.tail _ hx)) hc)
noncomputable def mQ:List Nat:=[0,32,9,13,10,133,8232,8233]
noncomputable def jh:List Nat:=[13,10,133,8232,8233]
noncomputable def ri(t:List Nat):Bool:=aB (t.take 3) [45,45,45]||aB (t.take 3) [46,46,46]
noncomputable def gV(t:List Nat):Bool:=ri t&&oe t[3]? (λc=>mQ.contains c) af
def j6(t:List Nat):Prop:=ri t=ae→∃d,t[3]?=ag d
inductive AV(s:Sc)(t:List Nat):Prop
 |a (z:Nat) (h:aB (t.take 3) [45,45,45]=ae) (q:s.at 3=ag z) (e:mQ.contains z=af)
 |b (z:Nat) (h1:aB (t.take 3) [45,45,45]=af) (h:aB (t.take 3) [46,46,46]=ae) (q:s.at 3=ag z) (e:mQ.contains z=af)
 |c (h1:aB (t.take 3) [45,45,45]=af) (h2:aB (t.take 3) [46,46,46]=af)
theorem MM{s:Sc}{t:List Nat}(H:s.aO t)(hd:j6 t)(hs:gV t=af):AV s t:=by
 have go:ri t=ae→∃z,s.at 3=ag z∧mQ.contains z=af:=λh=>by
  obtain⟨d,e⟩:=hd h
  unfold gV at hs
  rw[h,e]at hs
  exact⟨d,H.at (i:=3) e,hs⟩
 cases h1:aB (t.take 3) [45,45,45]with
 |true=>
  obtain⟨z,q,e⟩:=go (by unfold ri;rw[h1];rfl)
  exact .a z h1 q e
 |false=>cases h2:aB (t.take 3) [46,46,46]with
  |true=>
   obtain⟨z,q,e⟩:=go (by unfold ri;rw[h1,h2];rfl)
   exact .b z h1 h2 q e
  |false=>exact .c h1 h2
section
variable{s s' s2:Sc}{d m:V}{l:List V}{t:List Nat}{c:Nat}{m' :List Nat}
theorem Qv(S:AV s t)(H:s.aO t)(L:∀y,Gv (bo gi (b5 s (.v d) (.v m) (.own l) (.v (.str y)))) (.next,b5 s' (.v d) (.v m) (.own l) (.v (.str y))))(hc:s'.at 0=ag c)(hb:jh.contains c=af):
 (∃loc,Gv (dy (fg s (.v d) (.v m) (.own l))) (.ret (.lst l),⟨loc,ak s',af⟩))∧∀x,∃loc,Gv (dy (b5 s (.v d) (.v m) (.own l) x)) (.ret (.lst l),⟨loc,ak s',af⟩):=by
 cases S with
 |a z h q e=>exact⟨⟨_,Qc s d m l (H.pre 3) h q e (L _) hc hb rfl⟩,λx=>⟨_,Qb s d m l x (H.pre 3) h q e (L _) hc hb rfl⟩⟩
 |b z h1 h q e=>exact⟨⟨_,Qi s d m l (H.pre 3) h1 h q e (L _) hc hb rfl⟩,λx=>⟨_,Qh s d m l x (H.pre 3) h1 h q e (L _) hc hb rfl⟩⟩
 |c h1 h2=>exact⟨⟨_,Qo s d m l (H.pre 3) h1 h2 (L _) hc hb rfl⟩,λx=>⟨_,Qn s d m l x (H.pre 3) h1 h2 (L _) hc hb rfl⟩⟩
theorem Qr(S:AV s t)(H:s.aO t)(L:∀y,Gv (bo gi (b5 s (.v d) (.v m) (.own l) (.v (.str y)))) (.next,b5 s' (.v d) (.v m) (.own l) (.v (.str y))))(hc:s'.at 0=ag c)(hb:jh.contains c=ae)(B:Gives d8 [.ak] s' (.ok (.str m')) s2)(hl:aJ l.length aZ=ae):
 ∃x',Gv (dy (fg s (.v d) (.v m) (.own l))) (.next,b5 s2 (.v d) (.v m) (.own (l++[.str m'])) x')∧∀x,Gv (dy (b5 s (.v d) (.v m) (.own l) x)) (.next,b5 s2 (.v d) (.v m) (.own (l++[.str m'])) x'):=by
 cases S with
 |a z h q e=>exact⟨_,Qa s d m l (H.pre 3) h q e (L _) hc hb B hl rfl,λx=>P_ s d m l x (H.pre 3) h q e (L _) hc hb B hl rfl⟩
 |b z h1 h q e=>exact⟨_,Qg s d m l (H.pre 3) h1 h q e (L _) hc hb B hl rfl,λx=>Qf s d m l x (H.pre 3) h1 h q e (L _) hc hb B hl rfl⟩
 |c h1 h2=>exact⟨_,Qm s d m l (H.pre 3) h1 h2 (L _) hc hb B hl rfl,λx=>Ql s d m l x (H.pre 3) h1 h2 (L _) hc hb B hl rfl⟩
theorem v_{a b:List Nat}{s:Sc}(h:dT m=ae):d6 [.str a,m,.str b,s.mark]=ae:=by
 show(dT m&&ae)=ae
 rw[h];rfl
theorem Qu(H:s.aO t)(hs:gV t=ae)(hm:dT m=ae):∃e,jG m s.mark e∧(∃loc,Gv (dy (fg s (.v d) (.v m) (.own l))) (.exc e,⟨loc,ak s,af⟩))∧∀x,∃loc,Gv (dy (b5 s (.v d) (.v m) (.own l) x)) (.exc e,⟨loc,ak s,af⟩):=by
 obtain⟨h,h9⟩:=aF hs
 obtain⟨z,q,e⟩:∃z,s.at 3=ag z∧mQ.contains z=ae:=by
  cases q:t[3]? with
  |none=>rw[q]at h9;exact nt h9
  |some z=>rw[q]at h9;exact⟨z,H.at (i:=3) q,h9⟩
 refine⟨_,.mk (.str (sL "while scanning a quoted scalar")) (.str (sL "found unexpected document separator")),?_⟩
 cases h1:aB (t.take 3) [45,45,45]with
 |true=>exact⟨⟨_,Qe s d m l (H.pre 3) h1 q e (v_ hm) rfl⟩,λx=>⟨_,Qd s d m l x (H.pre 3) h1 q e (v_ hm) rfl⟩⟩
 |false=>
  have h2:aB (t.take 3) [46,46,46]=ae:=by unfold ri at h;rw[h1]at h;exact h
  exact⟨⟨_,Qk s d m l (H.pre 3) h1 h2 q e (v_ hm) rfl⟩,λx=>⟨_,Qj s d m l x (H.pre 3) h1 h2 q e (v_ hm) rfl⟩⟩
end
noncomputable abbrev cn(l:List (List Nat)):List V:=l.map V.str
inductive fv:List Nat→List (List Nat)→List Nat→List Nat→Prop where
 |stop (w:List Nat) (c:Nat) (r:List Nat) (hw:dr w) (hc:ax [32,9] c=af) (hb:jh.contains c=af) (hs:gV (w++c::r)=af) (hd:j6 (w++c::r)):fv (w++c::r) [] w (c::r)
 |go (w b m t:List Nat) (ms:List (List Nat)) (u t' :List Nat) (hw:dr w) (hb:cH b m t) (hs:gV (w++(b++t))=af) (hd:j6 (w++(b++t))) (h:fv t ms u t'):fv (w++(b++t)) (m::ms) (w++(b++u)) t'
inductive kD:List Nat→List Nat→List Nat→Prop where
 |here (t:List Nat) (ht:t≠[]) (hs:gV t=ae):kD t [] t
 |go (w b m t u t' :List Nat) (hw:dr w) (hb:cH b m t) (hs:gV (w++(b++t))=af) (hd:j6 (w++(b++t))) (h:kD t u t'):kD (w++(b++t)) (w++(b++u)) t'
theorem fv.text{t:List Nat}{ms:List (List Nat)}{u t' :List Nat}(h:fv t ms u t'):t=u++t' ∧∃c r,t' =c::r:=by
 induction h with
 |stop w c r=>exact⟨rfl,c,r,rfl⟩
 |go w b m t ms u t' hw hb hs hd h ih=>exact⟨by rw[ih.1,aR,aR],ih.2⟩
theorem kD.text{t u t' :List Nat}(h:kD t u t'):t=u++t' ∧t' ≠[]:=by
 induction h with
 |here t ht hs=>exact⟨rfl,ht⟩
 |go w b m t u t' hw hb hs hd h ih=>exact⟨by rw[ih.1,aR,aR],ih.2⟩
theorem kj{u t:List Nat}(h:t≠[]):u++t≠[]:=λe=>h (List.append_eq_nil_iff.mp e).2
theorem cH.head{b m t:List Nat}(h:cH b m t):∃c r,b=c::r∧ax [32,9] c=af∧jh.contains c=ae:=by
 induction h<;>exact⟨_,_,rfl,rfl,rfl⟩
theorem cB{n:Nat}(h:n≤1000000):aJ n aZ=ae:=zN (aL h (by decide))
section
variable{s:Sc}{d m:V}
theorem G3{w b m' t:List Nat}{l:List V}(hw:dr w)(hb:cH b m' t)(hs:gV (w++(b++t))=af)(hd:j6 (w++(b++t)))(H:s.aO (w++(b++t)))(ht:t≠[])(hl:l.length≤1000000):
 (aK (w++b) t s).aO t∧∃x',Gv (dy (fg s (.v d) (.v m) (.own l))) (.next,b5 (aK (w++b) t s) (.v d) (.v m) (.own (l++[.str m'])) x')∧∀x,Gv (dy (b5 s (.v d) (.v m) (.own l) x)) (.next,b5 (aK (w++b) t s) (.v d) (.v m) (.own (l++[.str m'])) x'):=by
 obtain⟨c,r,e,hc,h5⟩:=hb.head
 have S:=MM H hd hs
 rw[hJ]
 have A:=(Sc.aO.dz w H (by rw[e];exactλe=>nomatch e)).2
 refine⟨(Sc.aO.dz b A ht).2,Qr S H (λy=>?_) (c:=c) (A.at (i:=0) (by rw[e];rfl)) h5 (wM hb A ht) (cB hl)⟩
 have H' :=H
 rw[e]at H'
 have:=Bm w (loc:=[(ai "double",.v d),(ai "start_mark",.v m),(iS,.own l),(E0,.v (.str y))]) H' hw hc
 rw[e];exact this
theorem sQ{w b u t t' :List Nat}(e:t=u++t'):aK (w++(b++u)) t' s=aK u t' (aK (w++b) t s):=by rw[←aR,hJ (w++b) u,e]
theorem Qq{t:List Nat}{ms:List (List Nat)}{u t' :List Nat}(B:fv t ms u t'):∀{s:Sc}(l:List V),s.aO t→l.length+ms.length≤1000000→
 (∃loc,Gv (bo dy (fg s (.v d) (.v m) (.own l))) (.ret (.lst (l++cn ms)),⟨loc,ak (aK u t' s),af⟩))∧∀x,∃loc,Gv (bo dy (b5 s (.v d) (.v m) (.own l) x)) (.ret (.lst (l++cn ms)),⟨loc,ak (aK u t' s),af⟩):=by
 induction B with
 |stop w c r hw hc hb hs hd=>
  intro s l H hl
  obtain⟨⟨_,h0⟩,h1⟩:=Qv (d:=d) (m:=m) (l:=l) (MM H hd hs) H (λy=>Bm w (loc:=[(ai "double",.v d),(ai "start_mark",.v m),(iS,.own l),(E0,.v (.str y))]) H hw hc) (Sc.aO.fwd w H).2.df hb
  rw[show l++cn []=l from gv l]
  exact⟨⟨_,DY h0⟩,λx=>(h1 x).elim λ_ h1=>⟨_,DY h1⟩⟩
 |go w b m' t ms u t' hw hb hs hd h ih=>
  intro s l H hl
  obtain⟨et,c,r,qx⟩:=h.text
  rw[lE,←eL,jz]at hl
  obtain⟨A,x',h0,h1⟩:=G3 (d:=d) (m:=m) (l:=l) hw hb hs hd H (by rw[et,qx];exact kM) (aL (dh _ _) (aL (dh _ _) hl))
  obtain⟨_,I⟩:=ih (l++[.str m']) A (by rw[bE];exact hl)
  obtain⟨loc,I⟩:=I x'
  rw[sQ et]
  rw[aR]at I
  exact⟨⟨_,eZ h0 I⟩,λx=>⟨_,eZ (h1 x) I⟩⟩
theorem xC{t:List Nat}{ms:List (List Nat)}{u t' :List Nat}(B:fv t ms u t')(H:s.aO t)(hl:ms.length≤1000000):Gives jg [.ak,d,m] s (.ok (.lst (cn ms))) (aK u t' s):=by
 obtain⟨⟨loc,e⟩,_⟩:=Qq B (d:=d) (m:=m) [] H (by rw[pN,fY];exact hl)
 exact Qw s d m bA e (Gv.leaf _)
theorem Qp(hm:dT m=ae){t u t' :List Nat}(B:kD t u t'):∀{s:Sc}(l:List V),s.aO t→l.length+t.length≤1000000→
 ∃e,jG m (aK u t' s).mark e∧(∃loc,Gv (bo dy (fg s (.v d) (.v m) (.own l))) (.exc e,⟨loc,ak (aK u t' s),af⟩))∧∀x,∃loc,Gv (bo dy (b5 s (.v d) (.v m) (.own l) x)) (.exc e,⟨loc,ak (aK u t' s),af⟩):=by
 induction B with
 |here t ht hs=>
  intro s l H hl
  obtain⟨e,he,⟨_,h0⟩,h1⟩:=Qu (d:=d) (m:=m) (l:=l) H hs hm
  exact⟨e,he,⟨_,q9 h0⟩,λx=>(h1 x).elim λ_ h1=>⟨_,q9 h1⟩⟩
 |go w b m' t u t' hw hb hs hd h ih=>
  intro s l H hl
  obtain⟨et,V7⟩:=h.text
  obtain⟨c,r,eb,_,_⟩:=hb.head
  have i6:l.length+1+t.length≤1000000:=aL (by
   rw[eb,bE,bE,lE,eL]
   exact c8 (aL (gw (cF 1 r.length) _) (cF _ _)) _) hl
  obtain⟨A,x',h0,h1⟩:=G3 (d:=d) (m:=m) (l:=l) hw hb hs hd H (by rw[et];exact kj V7) (aL (dh _ _) hl)
  obtain⟨e,he,_,I⟩:=ih (l++[.str m']) A (by rw[bE];exact i6)
  obtain⟨loc,I⟩:=I x'
  rw[sQ et]
  exact⟨e,he,⟨_,eZ h0 I⟩,λx=>⟨_,eZ (h1 x) I⟩⟩
theorem G1{t u t' :List Nat}(B:kD t u t')(hm:dT m=ae)(H:s.aO t)(hl:t.length≤1000000):∃e,jG m (aK u t' s).mark e∧Gives jg [.ak,d,m] s (.exc e) (aK u t' s):=by
 obtain⟨e,he,⟨loc,h⟩,_⟩:=Qp hm B (d:=d) [] H (by rw[pN,fY];exact hl)
 exact⟨e,he,Qx s d m bA h (Gv.leaf _)⟩
end
def pZ(G:aX)(n:Nat)(b:List aG)(k:Out→aq→au):Out→aq→au:=λo st=>tJ o (aN G n b st k) λo=>k o st
theorem HZ(G:aX)(b:List aG)(k:Out→aq→au):∀(a:List aG)(n:Nat)(st:aq),aN G (a.length+1+n) (a++b) st k=aN G (a.length+1+n) a st (pZ G (n+1) b k)
 | [],n,st=>by
  rw[pN,fY,kq];rfl
 |s::a,n,st=>by
  rw[lE,jz]
  show xU G (a.length+1+n) s st (λo st=>tJ o (aN G (a.length+1+n) (a++b) st k) λo=>k o st)=xU G (a.length+1+n) s st (λo st=>tJ o (aN G (a.length+1+n) a st (pZ G (n+1) b k)) λo=>pZ G (n+1) b k o st)
  congr 1
  funext o st
  cases o with
  |next=>exact HZ G b k a n st
  |_=>rfl
theorem jn{G:aX}{a b c:List aG}{n N:Nat}{st:aq}{k:Out→aq→au}{r:R}(e:c=a++b)(hN:N=a.length+1+n)(h:Gv (aN G N a st (pZ G (n+1) b k)) r):Gv (aN G N c st k) r:=by rw[hN]at h⊢;rw[e,HZ];exact h
noncomputable def nsS(s:Sc)(d m c:FV):aq:=fg s d m c
noncomputable def cZ(s:Sc)(d m c x y:FV):aq:=⟨[(b9,.v .ak),(ai "double",d),(ai "start_mark",m),(iS,c),(dB,x),(fL,y)],ak s,af⟩
noncomputable def fW(s:Sc)(d m c x:FV):aq:=⟨[(b9,.v .ak),(ai "double",d),(ai "start_mark",m),(iS,c),(dB,x)],ak s,af⟩
noncomputable def mf(s:Sc)(d m c x y z:FV):aq:=⟨[(b9,.v .ak),(ai "double",d),(ai "start_mark",m),(iS,c),(dB,x),(fL,y),(kN,z)],ak s,af⟩
noncomputable def da(s:Sc)(d m c x y z w:FV):aq:=⟨[(b9,.v .ak),(ai "double",d),(ai "start_mark",m),(iS,c),(dB,x),(fL,y),(kN,z),(ai "code",w)],ak s,af⟩
noncomputable def pI:List aG:=(bS mh).take 4
noncomputable def eJ:List aG:=(bS mh).drop 4
theorem t20(s:Sc)(a b c:FV)(n:Int)(loc:FS){r:R}:∀⦃y1⦄(h2:(Sc.at s n)=ag y1)(h3:(!List.contains [39,34,92,0,32,9,13,10,133,8232,8233] y1)=ae)(hr:r=(.next,⟨(((ai "self"),(.v V.ak))::(((ai "double"),a)::(((ai "start_mark"),b)::(((ai "chunks"),c)::(((ai "length"),(.v (V.int (n+1))))::loc))))),(ak s),af⟩)),Gv (lC ⟨(ai "self",.v .ak)::(ai "double",a)::(ai "start_mark",b)::(ai "chunks",c)::(ai "length",.v (.int n))::loc,ak s,af⟩) r:=
 Gv.at (E:=op _ λ_=>_) (ae::[]) (by kernel_rfl) λg y1 h2 h3 hr=>g (az h2 (aj h3 hr))
theorem t21(s:Sc)(a b c:FV)(n:Int)(loc:FS){r:R}:∀⦃y1⦄(h2:(Sc.at s n)=ag y1)(h3:(!List.contains [39,34,92,0,32,9,13,10,133,8232,8233] y1)=af)(hr:r=(.brk,⟨(((ai "self"),(.v V.ak))::(((ai "double"),a)::(((ai "start_mark"),b)::(((ai "chunks"),c)::(((ai "length"),(.v (V.int n)))::loc))))),(ak s),af⟩)),Gv (lC ⟨(ai "self",.v .ak)::(ai "double",a)::(ai "start_mark",b)::(ai "chunks",c)::(ai "length",.v (.int n))::loc,ak s,af⟩) r:=
 Gv.at (E:=op _ λ_=>_) (af::[]) (by kernel_rfl) λg y1 h2 h3 hr=>g (az h2 (aj h3 hr))
theorem Zh(s:Sc)(d m:V)(l:List V)(k:Out→aq→au){r:R}:∀⦃i1⦄⦃s2⦄(h3:(Gv (bo lC (fW s (.v d) (.v m) (.own l) (.v (V.int 0)))) (.next,(fW s2 (.v d) (.v m) (.own l) (.v (V.int i1))))))(h4:(!Decidable.decide (i1=0))=ae)⦃y5⦄(h6:(Sc.pre s2 i1)=ag y5)(h7:(aJ (av l) aZ)=ae)(h8:(bO 0 i1)=ae)⦃y9⦄(aY:(Sc.fwd (a9 i1) s2)=ag y9)⦃b8⦄(bf:(Sc.at y9 0)=ag b8)(hk:Gv (k .next (cZ y9 (.v d) (.v m) (.own (bp l [(V.str y5)])) (.v (V.int i1)) (.v (V.str ([b8]))))) r),Gv (aN cQ 60 pI (fg s (.v d) (.v m) (.own l)) k) r:=
 Gv.to (E:=λ_=>∃_,∃_,_∧_∧op _ λ_=>tp _ (tp _ (op _ λ_=>op _ λ_=>_))) (λp=>ae::p) (λ_=>by kernel_rfl) λg i1 s2 h3 h4 y5 h6 h7 h8 y9 aY b8 bf hk=>g hk λp hk=>(aC i1 (aC s2 (aj h3 (aj h4 (az h6 (aM h7 (aM h8 (az aY (az bf hk)))))))))
theorem Zg(s:Sc)(d m:V)(l:List V)(k:Out→aq→au){r:R}:∀⦃i1⦄⦃s2⦄(h3:(Gv (bo lC (fW s (.v d) (.v m) (.own l) (.v (V.int 0)))) (.next,(fW s2 (.v d) (.v m) (.own l) (.v (V.int i1))))))(h4:(!Decidable.decide (i1=0))=af)⦃y5⦄(h6:(Sc.at s2 0)=ag y5)(hk:Gv (k .next (cZ s2 (.v d) (.v m) (.own l) (.v (V.int i1)) (.v (V.str ([y5]))))) r),Gv (aN cQ 60 pI (fg s (.v d) (.v m) (.own l)) k) r:=
 Gv.to (E:=λ_=>∃_,∃_,_∧_∧op _ λ_=>_) (λp=>af::p) (λ_=>by kernel_rfl) λg i1 s2 h3 h4 y5 h6 hk=>g hk λp hk=>(aC i1 (aC s2 (aj h3 (aj h4 (az h6 hk)))))
theorem Zd(s:Sc)(d m:V)(l:List V)(x y:FV)(k:Out→aq→au){r:R}:∀⦃i1⦄⦃s2⦄(h3:(Gv (bo lC (cZ s (.v d) (.v m) (.own l) (.v (V.int 0)) y)) (.next,(cZ s2 (.v d) (.v m) (.own l) (.v (V.int i1)) y))))(h4:(!Decidable.decide (i1=0))=ae)⦃y5⦄(h6:(Sc.pre s2 i1)=ag y5)(h7:(aJ (av l) aZ)=ae)(h8:(bO 0 i1)=ae)⦃y9⦄(aY:(Sc.fwd (a9 i1) s2)=ag y9)⦃b8⦄(bf:(Sc.at y9 0)=ag b8)(hk:Gv (k .next (cZ y9 (.v d) (.v m) (.own (bp l [(V.str y5)])) (.v (V.int i1)) (.v (V.str ([b8]))))) r),Gv (aN cQ 60 pI (cZ s (.v d) (.v m) (.own l) x y) k) r:=
 Gv.to (E:=λ_=>∃_,∃_,_∧_∧op _ λ_=>tp _ (tp _ (op _ λ_=>op _ λ_=>_))) (λp=>ae::p) (λ_=>by kernel_rfl) λg i1 s2 h3 h4 y5 h6 h7 h8 y9 aY b8 bf hk=>g hk λp hk=>(aC i1 (aC s2 (aj h3 (aj h4 (az h6 (aM h7 (aM h8 (az aY (az bf hk)))))))))
theorem Zc(s:Sc)(d m:V)(l:List V)(x y:FV)(k:Out→aq→au){r:R}:∀⦃i1⦄⦃s2⦄(h3:(Gv (bo lC (cZ s (.v d) (.v m) (.own l) (.v (V.int 0)) y)) (.next,(cZ s2 (.v d) (.v m) (.own l) (.v (V.int i1)) y))))(h4:(!Decidable.decide (i1=0))=af)⦃y5⦄(h6:(Sc.at s2 0)=ag y5)(hk:Gv (k .next (cZ s2 (.v d) (.v m) (.own l) (.v (V.int i1)) (.v (V.str ([y5]))))) r),Gv (aN cQ 60 pI (cZ s (.v d) (.v m) (.own l) x y) k) r:=
 Gv.to (E:=λ_=>∃_,∃_,_∧_∧op _ λ_=>_) (λp=>af::p) (λ_=>by kernel_rfl) λg i1 s2 h3 h4 y5 h6 hk=>g hk λp hk=>(aC i1 (aC s2 (aj h3 (aj h4 (az h6 hk)))))
theorem Zf(s:Sc)(d m:V)(l:List V)(x y z w:FV)(k:Out→aq→au){r:R}:∀⦃i1⦄⦃s2⦄(h3:(Gv (bo lC (da s (.v d) (.v m) (.own l) (.v (V.int 0)) y z w)) (.next,(da s2 (.v d) (.v m) (.own l) (.v (V.int i1)) y z w))))(h4:(!Decidable.decide (i1=0))=ae)⦃y5⦄(h6:(Sc.pre s2 i1)=ag y5)(h7:(aJ (av l) aZ)=ae)(h8:(bO 0 i1)=ae)⦃y9⦄(aY:(Sc.fwd (a9 i1) s2)=ag y9)⦃b8⦄(bf:(Sc.at y9 0)=ag b8)(hk:Gv (k .next (da y9 (.v d) (.v m) (.own (bp l [(V.str y5)])) (.v (V.int i1)) (.v (V.str ([b8]))) z w)) r),Gv (aN cQ 60 pI (da s (.v d) (.v m) (.own l) x y z w) k) r:=
 Gv.to (E:=λ_=>∃_,∃_,_∧_∧op _ λ_=>tp _ (tp _ (op _ λ_=>op _ λ_=>_))) (λp=>ae::p) (λ_=>by kernel_rfl) λg i1 s2 h3 h4 y5 h6 h7 h8 y9 aY b8 bf hk=>g hk λp hk=>(aC i1 (aC s2 (aj h3 (aj h4 (az h6 (aM h7 (aM h8 (az aY (az bf hk)))))))))
theorem Ze(s:Sc)(d m:V)(l:List V)(x y z w:FV)(k:Out→aq→au){r:R}:∀⦃i1⦄⦃s2⦄(h3:(Gv (bo lC (da s (.v d) (.v m) (.own l) (.v (V.int 0)) y z w)) (.next,(da s2 (.v d) (.v m) (.own l) (.v (V.int i1)) y z w))))(h4:(!Decidable.decide (i1=0))=af)⦃y5⦄(h6:(Sc.at s2 0)=ag y5)(hk:Gv (k .next (da s2 (.v d) (.v m) (.own l) (.v (V.int i1)) (.v (V.str ([y5]))) z w)) r),Gv (aN cQ 60 pI (da s (.v d) (.v m) (.own l) x y z w) k) r:=
 Gv.to (E:=λ_=>∃_,∃_,_∧_∧op _ λ_=>_) (λp=>af::p) (λ_=>by kernel_rfl) λg i1 s2 h3 h4 y5 h6 hk=>g hk λp hk=>(aC i1 (aC s2 (aj h3 (aj h4 (az h6 hk)))))
theorem Zo(s:Sc)(m:V)(l:List V)(x:FV)(c:Nat)(k:Out→aq→au){r:R}:∀(h1:(aB [c] [39])=ae)⦃y2⦄(h3:(Sc.at s 1)=ag y2)(h4:(aB [y2] [39])=ae)(h5:(aJ (av l) aZ)=ae)⦃y6⦄(h7:(Sc.fwd (a9 2) s)=ag y6)(hk:Gv (k .next (cZ y6 (.v (V.bool af)) (.v m) (.own (bp l [(V.str [39])])) x (.v (V.str ([c]))))) r),Gv (aN cQ 56 eJ (cZ s (.v (.bool af)) (.v m) (.own l) x (.v (.str [c]))) k) r:=
 Gv.to (E:=λ_=>_∧_∧op _ λ_=>_∧_∧tp _ (op _ λ_=>_)) (λp=>ae::ae::ae::ae::p) (λ_=>by kernel_rfl) λg h1 y2 h3 h4 h5 y6 h7 hk=>g hk λp hk=>(aj tT (aj h1 (az h3 (aj h4 (aj tT (aM h5 (az h7 hk)))))))
theorem Zn(s:Sc)(m:V)(l:List V)(x:FV)(c:Nat)(k:Out→aq→au){r:R}:∀(h1:(aB [c] [39])=af)(h2:(ax [34,92] c)=ae)(h3:(aJ (av l) aZ)=ae)⦃y4⦄(h5:(Sc.fwd (a9 1) s)=ag y4)(hk:Gv (k .next (cZ y4 (.v (V.bool af)) (.v m) (.own (bp l [(V.str ([c]))])) x (.v (V.str ([c]))))) r),Gv (aN cQ 56 eJ (cZ s (.v (.bool af)) (.v m) (.own l) x (.v (.str [c]))) k) r:=
 Gv.to (E:=λ_=>_∧_∧_∧_∧_∧_∧_∧_∧_∧tp _ (op _ λ_=>_)) (λp=>ae::af::af::af::af::ae::ae::ae::ae::p) (λ_=>by kernel_rfl) λg h1 h2 h3 y4 h5 hk=>g hk λp hk=>(aj tT (aj h1 (aj tF (aj tF (aj tF (aj tT (aj h2 (aj tT (aj tT (aM h3 (az h5 hk)))))))))))
theorem Zp(s:Sc)(m:V)(l:List V)(x:FV)(c:Nat)(k:Out→aq→au){r:R}:∀(h1:(aB [c] [39])=ae)⦃y2⦄(h3:(Sc.at s 1)=ag y2)(h4:(aB [y2] [39])=af)(h5:(ax [34,92] c)=af)(hk:Gv (k (.ret (V.lst l)) (cZ s (.v (V.bool af)) (.v m) (.v (V.lst l)) x (.v (V.str ([c]))))) r),Gv (aN cQ 56 eJ (cZ s (.v (.bool af)) (.v m) (.own l) x (.v (.str [c]))) k) r:=
 Gv.to (E:=λ_=>_∧_∧op _ λ_=>_) (λp=>ae::ae::af::af::af::af::ae::af::af::af::af::af::p) (λ_=>by kernel_rfl) λg h1 y2 h3 h4 h5 hk=>g hk λp hk=>(aj tT (aj h1 (az h3 (aj h4 (aj tF (aj tF (aj tF (aj tT (aj h5 (aj tF (aj tF (aj tF (aj tF hk)))))))))))))
theorem Zq(s:Sc)(m:V)(l:List V)(x:FV)(c:Nat)(k:Out→aq→au)(h1:(aB [c] [39])=af)(h2:(ax [34,92] c)=af){r:R}(hk:Gv (k (.ret (V.lst l)) (cZ s (.v (V.bool af)) (.v m) (.v (V.lst l)) x (.v (V.str ([c]))))) r):Gv (aN cQ 56 eJ (cZ s (.v (.bool af)) (.v m) (.own l) x (.v (.str [c]))) k) r:=by
 obtain⟨p,hk⟩:=hk
 exact Gv.of (ae::af::af::af::af::ae::af::af::af::af::af::p) (by kernel_rfl) (aj tT (aj h1 (aj tF (aj tF (aj tF (aj tT (aj h2 (aj tF (aj tF (aj tF (aj tF hk)))))))))))
theorem ZD(s:Sc)(m:V)(l:List V)(x:FV)(c:Nat)(k:Out→aq→au){r:R}:∀(h1:(aB [c] [39])=ae)(h2:(aJ (av l) aZ)=ae)⦃y3⦄(h4:(Sc.fwd (a9 1) s)=ag y3)(hk:Gv (k .next (cZ y3 (.v (V.bool ae)) (.v m) (.own (bp l [(V.str ([c]))])) x (.v (V.str ([c]))))) r),Gv (aN cQ 56 eJ (cZ s (.v (.bool ae)) (.v m) (.own l) x (.v (.str [c]))) k) r:=
 Gv.to (E:=λ_=>_∧_∧_∧_∧_∧_∧tp _ (op _ λ_=>_)) (λp=>af::af::ae::ae::ae::ae::p) (λ_=>by kernel_rfl) λg h1 h2 y3 h4 hk=>g hk λp hk=>(aj tF (aj tF (aj tT (aj h1 (aj tT (aj tT (aM h2 (az h4 hk))))))))
theorem Zv(s:Sc)(m:V)(l:List V)(x z w:FV)(c:Nat)(k:Out→aq→au){r:R}:∀(h1:(aB [c] [39])=ae)(h2:(aJ (av l) aZ)=ae)⦃y3⦄(h4:(Sc.fwd (a9 1) s)=ag y3)(hk:Gv (k .next (da y3 (.v (V.bool ae)) (.v m) (.own (bp l [(V.str ([c]))])) x (.v (V.str ([c]))) z w)) r),Gv (aN cQ 56 eJ (da s (.v (.bool ae)) (.v m) (.own l) x (.v (.str [c])) z w) k) r:=
 Gv.to (E:=λ_=>_∧_∧_∧_∧_∧_∧tp _ (op _ λ_=>_)) (λp=>af::af::ae::ae::ae::ae::p) (λ_=>by kernel_rfl) λg h1 h2 y3 h4 hk=>g hk λp hk=>(aj tF (aj tF (aj tT (aj h1 (aj tT (aj tT (aM h2 (az h4 hk))))))))
theorem ZC(s:Sc)(m:V)(l:List V)(x:FV)(c:Nat)(k:Out→aq→au){r:R}:∀(h1:(aB [c] [39])=af)(h2:(aB [c] [92])=ae)⦃y3⦄(h4:(Sc.fwd (a9 1) s)=ag y3)⦃y5⦄(h6:(Sc.at y3 0)=ag y5)(h7:(dj [y5] (c9.y eH))=ae)⦃y8⦄(h9:(bx (V.tab (c9.y eH)) (V.str ([y5])))=ag y8)(aY:(aJ (av l) aZ)=ae)⦃b8⦄(bf:(Sc.fwd (a9 1) y3)=ag b8)(hk:Gv (k .next (cZ b8 (.v (V.bool ae)) (.v m) (.own (bp l [y8])) x (.v (V.str ([y5]))))) r),Gv (aN cQ 56 eJ (cZ s (.v (.bool ae)) (.v m) (.own l) x (.v (.str [c]))) k) r:=
 Gv.to (E:=λ_=>_∧_∧_∧_∧_∧_∧_∧_∧_∧_∧_∧op _ λ_=>op _ λ_=>_∧op _ λ_=>tp _ (op _ λ_=>_)) (λp=>af::af::ae::af::af::af::af::af::ae::ae::ae::ae::p) (λ_=>by kernel_rfl) λg h1 h2 y3 h4 y5 h6 h7 y8 h9 aY b8 bf hk=>g hk λp hk=>(aj tF (aj tF (aj tT (aj h1 (aj tF (aj tF (aj tF (aj tF (aj tT (aj h2 (aj tT (az h4 (az h6 (aj h7 (az h9 (aM aY (az bf hk)))))))))))))))))
theorem Zu(s:Sc)(m:V)(l:List V)(x z w:FV)(c:Nat)(k:Out→aq→au){r:R}:∀(h1:(aB [c] [39])=af)(h2:(aB [c] [92])=ae)⦃y3⦄(h4:(Sc.fwd (a9 1) s)=ag y3)⦃y5⦄(h6:(Sc.at y3 0)=ag y5)(h7:(dj [y5] (c9.y eH))=ae)⦃y8⦄(h9:(bx (V.tab (c9.y eH)) (V.str ([y5])))=ag y8)(aY:(aJ (av l) aZ)=ae)⦃b8⦄(bf:(Sc.fwd (a9 1) y3)=ag b8)(hk:Gv (k .next (da b8 (.v (V.bool ae)) (.v m) (.own (bp l [y8])) x (.v (V.str ([y5]))) z w)) r),Gv (aN cQ 56 eJ (da s (.v (.bool ae)) (.v m) (.own l) x (.v (.str [c])) z w) k) r:=
 Gv.to (E:=λ_=>_∧_∧_∧_∧_∧_∧_∧_∧_∧_∧_∧op _ λ_=>op _ λ_=>_∧op _ λ_=>tp _ (op _ λ_=>_)) (λp=>af::af::ae::af::af::af::af::af::ae::ae::ae::ae::p) (λ_=>by kernel_rfl) λg h1 h2 y3 h4 y5 h6 h7 y8 h9 aY b8 bf hk=>g hk λp hk=>(aj tF (aj tF (aj tT (aj h1 (aj tF (aj tF (aj tF (aj tF (aj tT (aj h2 (aj tT (az h4 (az h6 (aj h7 (az h9 (aM aY (az bf hk)))))))))))))))))
theorem ZE(s:Sc)(m:V)(l:List V)(x:FV)(c:Nat)(k:Out→aq→au){r:R}:∀(h1:(aB [c] [39])=af)(h2:(aB [c] [92])=ae)⦃y3⦄(h4:(Sc.fwd (a9 1) s)=ag y3)⦃y5⦄(h6:(Sc.at y3 0)=ag y5)(h7:(dj [y5] (c9.y eH))=af)(h8:(dj [y5] (c9.y eW))=ae)⦃y9⦄(aY:(bx (V.tab (c9.y eW)) (V.str ([y5])))=ag y9)⦃b8⦄(bf:(Sc.fwd (a9 1) y3)=ag b8)⦃m9⦄(hM:(Gv (nA (cZ b8 (.v (V.bool ae)) (.v m) (.own l) (.v y9) (.v (V.str ([y5])))) pk) (.next,(mf b8 (.v (V.bool ae)) (.v m) (.own l) (.v y9) (.v (V.str ([y5]))) (.v (V.int m9))))))⦃ij⦄(hU:(tt ae (V.i? y9))=ag ij)⦃rX⦄(jr:(Sc.pre b8 ij)=ag rX)⦃j5⦄(k7:(gh cQ Bi.int [(V.str rX),(V.int 16)])=ag j5)⦃rY⦄(k8:(gh cQ Bi.chr [j5])=ag rY)(vn:(aJ (av l) aZ)=ae)⦃oj⦄(vo:(tt ae (V.i? y9))=ag oj)(vq:(bO 0 oj)=ae)⦃rZ⦄(vr:(Sc.fwd (a9 oj) b8)=ag rZ)(hk:Gv (k .next (da rZ (.v (V.bool ae)) (.v m) (.own (bp l [rY])) (.v y9) (.v (V.str ([y5]))) (.v (V.int m9)) (.v j5))) r),Gv (aN cQ 56 eJ (cZ s (.v (.bool ae)) (.v m) (.own l) x (.v (.str [c]))) k) r:=
 Gv.to (E:=λ_=>_∧_∧_∧_∧_∧_∧_∧_∧_∧_∧_∧op _ λ_=>op _ λ_=>_∧_∧op _ λ_=>op _ λ_=>∃_,_∧op _ λ_=>op _ λ_=>op _ λ_=>op _ λ_=>tp _ (op _ λ_=>tp _ (op _ λ_=>_))) (λp=>af::af::ae::af::af::af::af::af::ae::ae::ae::af::ae::ae::p) (λ_=>by kernel_rfl) λg h1 h2 y3 h4 y5 h6 h7 h8 y9 aY b8 bf m9 hM ij hU rX jr j5 k7 rY k8 vn oj vo vq rZ vr hk=>g hk λp hk=>(aj tF (aj tF (aj tT (aj h1 (aj tF (aj tF (aj tF (aj tF (aj tT (aj h2 (aj tT (az h4 (az h6 (aj h7 (aj h8 (az aY (az bf (aC m9 (aj hM (az hU (az jr (az k7 (az k8 (aM vn (az vo (aM vq (az vr hk)))))))))))))))))))))))))))
theorem Zw(s:Sc)(m:V)(l:List V)(x z w:FV)(c:Nat)(k:Out→aq→au){r:R}:∀(h1:(aB [c] [39])=af)(h2:(aB [c] [92])=ae)⦃y3⦄(h4:(Sc.fwd (a9 1) s)=ag y3)⦃y5⦄(h6:(Sc.at y3 0)=ag y5)(h7:(dj [y5] (c9.y eH))=af)(h8:(dj [y5] (c9.y eW))=ae)⦃y9⦄(aY:(bx (V.tab (c9.y eW)) (V.str ([y5])))=ag y9)⦃b8⦄(bf:(Sc.fwd (a9 1) y3)=ag b8)⦃m9⦄(hM:(Gv (nA (da b8 (.v (V.bool ae)) (.v m) (.own l) (.v y9) (.v (V.str ([y5]))) z w) pk) (.next,(da b8 (.v (V.bool ae)) (.v m) (.own l) (.v y9) (.v (V.str ([y5]))) (.v (V.int m9)) w))))⦃ij⦄(hU:(tt ae (V.i? y9))=ag ij)⦃rX⦄(jr:(Sc.pre b8 ij)=ag rX)⦃j5⦄(k7:(gh cQ Bi.int [(V.str rX),(V.int 16)])=ag j5)⦃rY⦄(k8:(gh cQ Bi.chr [j5])=ag rY)(vn:(aJ (av l) aZ)=ae)⦃oj⦄(vo:(tt ae (V.i? y9))=ag oj)(vq:(bO 0 oj)=ae)⦃rZ⦄(vr:(Sc.fwd (a9 oj) b8)=ag rZ)(hk:Gv (k .next (da rZ (.v (V.bool ae)) (.v m) (.own (bp l [rY])) (.v y9) (.v (V.str ([y5]))) (.v (V.int m9)) (.v j5))) r),Gv (aN cQ 56 eJ (da s (.v (.bool ae)) (.v m) (.own l) x (.v (.str [c])) z w) k) r:=
 Gv.to (E:=λ_=>_∧_∧_∧_∧_∧_∧_∧_∧_∧_∧_∧op _ λ_=>op _ λ_=>_∧_∧op _ λ_=>op _ λ_=>∃_,_∧op _ λ_=>op _ λ_=>op _ λ_=>op _ λ_=>tp _ (op _ λ_=>tp _ (op _ λ_=>_))) (λp=>af::af::ae::af::af::af::af::af::ae::ae::ae::af::ae::ae::p) (λ_=>by kernel_rfl) λg h1 h2 y3 h4 y5 h6 h7 h8 y9 aY b8 bf m9 hM ij hU rX jr j5 k7 rY k8 vn oj vo vq rZ vr hk=>g hk λp hk=>(aj tF (aj tF (aj tT (aj h1 (aj tF (aj tF (aj tF (aj tF (aj tT (aj h2 (aj tT (az h4 (az h6 (aj h7 (aj h8 (az aY (az bf (aC m9 (aj hM (az hU (az jr (az k7 (az k8 (aM vn (az vo (aM vq (az vr hk)))))))))))))))))))))))))))
theorem Ld(s:Sc)(m:V)(l:List V)(x:FV)(c:Nat)(k:Out→aq→au){r:R}:∀(h1:(aB [c] [39])=af)(h2:(aB [c] [92])=ae)⦃y3⦄(h4:(Sc.fwd (a9 1) s)=ag y3)⦃y5⦄(h6:(Sc.at y3 0)=ag y5)(h7:(dj [y5] (c9.y eH))=af)(h8:(dj [y5] (c9.y eW))=ae)⦃y9⦄(aY:(bx (V.tab (c9.y eW)) (V.str ([y5])))=ag y9)⦃b8⦄(bf:(Sc.fwd (a9 1) y3)=ag b8)⦃gF⦄⦃gf⦄(dt:(Gv (nA (cZ b8 (.v (V.bool ae)) (.v m) (.own l) (.v y9) (.v (V.str ([y5])))) pk) ((.exc gF),⟨gf,(ak b8),af⟩)))(hk:Gv (k (.exc gF) ⟨gf,(ak b8),af⟩) r),Gv (aN cQ 56 eJ (cZ s (.v (.bool ae)) (.v m) (.own l) x (.v (.str [c]))) k) r:=
 Gv.to (E:=λ_=>_∧_∧_∧_∧_∧_∧_∧_∧_∧_∧_∧op _ λ_=>op _ λ_=>_∧_∧op _ λ_=>op _ λ_=>∃_,∃_,_) (λp=>af::af::ae::af::af::af::af::af::ae::ae::ae::af::ae::af::p) (λ_=>by kernel_rfl) λg h1 h2 y3 h4 y5 h6 h7 h8 y9 aY b8 bf gF gf dt hk=>g hk λp hk=>(aj tF (aj tF (aj tT (aj h1 (aj tF (aj tF (aj tF (aj tF (aj tT (aj h2 (aj tT (az h4 (az h6 (aj h7 (aj h8 (az aY (az bf (aC gF (aC gf (aj dt hk))))))))))))))))))))
theorem Lc(s:Sc)(m:V)(l:List V)(x z w:FV)(c:Nat)(k:Out→aq→au){r:R}:∀(h1:(aB [c] [39])=af)(h2:(aB [c] [92])=ae)⦃y3⦄(h4:(Sc.fwd (a9 1) s)=ag y3)⦃y5⦄(h6:(Sc.at y3 0)=ag y5)(h7:(dj [y5] (c9.y eH))=af)(h8:(dj [y5] (c9.y eW))=ae)⦃y9⦄(aY:(bx (V.tab (c9.y eW)) (V.str ([y5])))=ag y9)⦃b8⦄(bf:(Sc.fwd (a9 1) y3)=ag b8)⦃gF⦄⦃gf⦄(dt:(Gv (nA (da b8 (.v (V.bool ae)) (.v m) (.own l) (.v y9) (.v (V.str ([y5]))) z w) pk) ((.exc gF),⟨gf,(ak b8),af⟩)))(hk:Gv (k (.exc gF) ⟨gf,(ak b8),af⟩) r),Gv (aN cQ 56 eJ (da s (.v (.bool ae)) (.v m) (.own l) x (.v (.str [c])) z w) k) r:=
 Gv.to (E:=λ_=>_∧_∧_∧_∧_∧_∧_∧_∧_∧_∧_∧op _ λ_=>op _ λ_=>_∧_∧op _ λ_=>op _ λ_=>∃_,∃_,_) (λp=>af::af::ae::af::af::af::af::af::ae::ae::ae::af::ae::af::p) (λ_=>by kernel_rfl) λg h1 h2 y3 h4 y5 h6 h7 h8 y9 aY b8 bf gF gf dt hk=>g hk λp hk=>(aj tF (aj tF (aj tT (aj h1 (aj tF (aj tF (aj tF (aj tF (aj tT (aj h2 (aj tT (az h4 (az h6 (aj h7 (aj h8 (az aY (az bf (aC gF (aC gf (aj dt hk))))))))))))))))))))
theorem Zz(s:Sc)(m:V)(l:List V)(x:FV)(c:Nat)(k:Out→aq→au){r:R}:∀(h1:(aB [c] [39])=af)(h2:(aB [c] [92])=ae)⦃y3⦄(h4:(Sc.fwd (a9 1) s)=ag y3)⦃y5⦄(h6:(Sc.at y3 0)=ag y5)(h7:(dj [y5] (c9.y eH))=af)(h8:(dj [y5] (c9.y eW))=af)(h9:(ax [13,10,133,8232,8233] y5)=ae)⦃d_⦄⦃dU⦄(bf:(Gives d8 [V.ak] y3 (.ok (V.str d_)) dU))⦃cP⦄⦃cy⦄(dt:(Gives jg [V.ak,(V.bool ae),m] dU (.ok (V.lst cP)) cy))(eY:(aJ (av l+av cP) aZ)=ae)(hk:Gv (k .next (cZ cy (.v (V.bool ae)) (.v m) (.own (bp l cP)) x (.v (V.str ([y5]))))) r),Gv (aN cQ 56 eJ (cZ s (.v (.bool ae)) (.v m) (.own l) x (.v (.str [c]))) k) r:=
 Gv.to (E:=λ_=>_∧_∧_∧_∧_∧_∧_∧_∧_∧_∧_∧op _ λ_=>op _ λ_=>_∧_∧_∧∃_,∃_,_∧∃_,∃_,_) (λp=>af::af::ae::af::af::af::af::af::ae::ae::ae::af::af::ae::ae::p) (λ_=>by kernel_rfl) λg h1 h2 y3 h4 y5 h6 h7 h8 h9 d_ dU bf cP cy dt eY hk=>g hk λp hk=>(aj tF (aj tF (aj tT (aj h1 (aj tF (aj tF (aj tF (aj tF (aj tT (aj h2 (aj tT (az h4 (az h6 (aj h7 (aj h8 (aj h9 (aC d_ (aC dU (aj bf (aC cP (aC cy (aj dt (aM eY hk)))))))))))))))))))))))
theorem Zs(s:Sc)(m:V)(l:List V)(x z w:FV)(c:Nat)(k:Out→aq→au){r:R}:∀(h1:(aB [c] [39])=af)(h2:(aB [c] [92])=ae)⦃y3⦄(h4:(Sc.fwd (a9 1) s)=ag y3)⦃y5⦄(h6:(Sc.at y3 0)=ag y5)(h7:(dj [y5] (c9.y eH))=af)(h8:(dj [y5] (c9.y eW))=af)(h9:(ax [13,10,133,8232,8233] y5)=ae)⦃d_⦄⦃dU⦄(bf:(Gives d8 [V.ak] y3 (.ok (V.str d_)) dU))⦃cP⦄⦃cy⦄(dt:(Gives jg [V.ak,(V.bool ae),m] dU (.ok (V.lst cP)) cy))(eY:(aJ (av l+av cP) aZ)=ae)(hk:Gv (k .next (da cy (.v (V.bool ae)) (.v m) (.own (bp l cP)) x (.v (V.str ([y5]))) z w)) r),Gv (aN cQ 56 eJ (da s (.v (.bool ae)) (.v m) (.own l) x (.v (.str [c])) z w) k) r:=
 Gv.to (E:=λ_=>_∧_∧_∧_∧_∧_∧_∧_∧_∧_∧_∧op _ λ_=>op _ λ_=>_∧_∧_∧∃_,∃_,_∧∃_,∃_,_) (λp=>af::af::ae::af::af::af::af::af::ae::ae::ae::af::af::ae::ae::p) (λ_=>by kernel_rfl) λg h1 h2 y3 h4 y5 h6 h7 h8 h9 d_ dU bf cP cy dt eY hk=>g hk λp hk=>(aj tF (aj tF (aj tT (aj h1 (aj tF (aj tF (aj tF (aj tF (aj tT (aj h2 (aj tT (az h4 (az h6 (aj h7 (aj h8 (aj h9 (aC d_ (aC dU (aj bf (aC cP (aC cy (aj dt (aM eY hk)))))))))))))))))))))))
theorem ZA(s:Sc)(m:V)(l:List V)(x:FV)(c:Nat)(k:Out→aq→au){r:R}:∀(h1:(aB [c] [39])=af)(h2:(aB [c] [92])=ae)⦃y3⦄(h4:(Sc.fwd (a9 1) s)=ag y3)⦃y5⦄(h6:(Sc.at y3 0)=ag y5)(h7:(dj [y5] (c9.y eH))=af)(h8:(dj [y5] (c9.y eW))=af)(h9:(ax [13,10,133,8232,8233] y5)=ae)⦃d_⦄⦃dU⦄(bf:(Gives d8 [V.ak] y3 (.ok (V.str d_)) dU))⦃gF⦄⦃cy⦄(dt:(Gives jg [V.ak,(V.bool ae),m] dU (.exc gF) cy))(hk:Gv (k (.exc gF) (cZ cy (.v (V.bool ae)) (.v m) (.own l) x (.v (V.str ([y5]))))) r),Gv (aN cQ 56 eJ (cZ s (.v (.bool ae)) (.v m) (.own l) x (.v (.str [c]))) k) r:=
 Gv.to (E:=λ_=>_∧_∧_∧_∧_∧_∧_∧_∧_∧_∧_∧op _ λ_=>op _ λ_=>_∧_∧_∧∃_,∃_,_∧∃_,∃_,_) (λp=>af::af::ae::af::af::af::af::af::ae::ae::ae::af::af::ae::af::p) (λ_=>by kernel_rfl) λg h1 h2 y3 h4 y5 h6 h7 h8 h9 d_ dU bf gF cy dt hk=>g hk λp hk=>(aj tF (aj tF (aj tT (aj h1 (aj tF (aj tF (aj tF (aj tF (aj tT (aj h2 (aj tT (az h4 (az h6 (aj h7 (aj h8 (aj h9 (aC d_ (aC dU (aj bf (aC gF (aC cy (aj dt hk))))))))))))))))))))))
theorem Zt(s:Sc)(m:V)(l:List V)(x z w:FV)(c:Nat)(k:Out→aq→au){r:R}:∀(h1:(aB [c] [39])=af)(h2:(aB [c] [92])=ae)⦃y3⦄(h4:(Sc.fwd (a9 1) s)=ag y3)⦃y5⦄(h6:(Sc.at y3 0)=ag y5)(h7:(dj [y5] (c9.y eH))=af)(h8:(dj [y5] (c9.y eW))=af)(h9:(ax [13,10,133,8232,8233] y5)=ae)⦃d_⦄⦃dU⦄(bf:(Gives d8 [V.ak] y3 (.ok (V.str d_)) dU))⦃gF⦄⦃cy⦄(dt:(Gives jg [V.ak,(V.bool ae),m] dU (.exc gF) cy))(hk:Gv (k (.exc gF) (da cy (.v (V.bool ae)) (.v m) (.own l) x (.v (V.str ([y5]))) z w)) r),Gv (aN cQ 56 eJ (da s (.v (.bool ae)) (.v m) (.own l) x (.v (.str [c])) z w) k) r:=
 Gv.to (E:=λ_=>_∧_∧_∧_∧_∧_∧_∧_∧_∧_∧_∧op _ λ_=>op _ λ_=>_∧_∧_∧∃_,∃_,_∧∃_,∃_,_) (λp=>af::af::ae::af::af::af::af::af::ae::ae::ae::af::af::ae::af::p) (λ_=>by kernel_rfl) λg h1 h2 y3 h4 y5 h6 h7 h8 h9 d_ dU bf gF cy dt hk=>g hk λp hk=>(aj tF (aj tF (aj tT (aj h1 (aj tF (aj tF (aj tF (aj tF (aj tT (aj h2 (aj tT (az h4 (az h6 (aj h7 (aj h8 (aj h9 (aC d_ (aC dU (aj bf (aC gF (aC cy (aj dt hk))))))))))))))))))))))
theorem Zy(s:Sc)(m:V)(l:List V)(x:FV)(c:Nat)(k:Out→aq→au){r:R}:∀(h1:(aB [c] [39])=af)(h2:(aB [c] [92])=ae)⦃y3⦄(h4:(Sc.fwd (a9 1) s)=ag y3)⦃y5⦄(h6:(Sc.at y3 0)=ag y5)(h7:(dj [y5] (c9.y eH))=af)(h8:(dj [y5] (c9.y eW))=af)(h9:(ax [13,10,133,8232,8233] y5)=af)⦃dq⦄(cq:(kY (zS) (V.str (sL "found unknown escape character %r")) (V.str ([y5])))=ag dq)(bf:(d6 [(V.str (sL "while scanning a double-quoted scalar")),m,dq,(Sc.mark y3)])=ae)(hk:Gv (k (.exc (V.obj 511 [((ai "context"),(V.str (sL "while scanning a double-quoted scalar"))),((ai "context_mark"),m),((ai "problem"),dq),((ai "problem_mark"),(Sc.mark y3)),((ai "note"),V.none)])) (cZ y3 (.v (V.bool ae)) (.v m) (.own l) x (.v (V.str ([y5]))))) r),Gv (aN cQ 56 eJ (cZ s (.v (.bool ae)) (.v m) (.own l) x (.v (.str [c]))) k) r:=
 Gv.to (E:=λ_=>_∧_∧_∧_∧_∧_∧_∧_∧_∧_∧_∧op _ λ_=>op _ λ_=>_∧_∧_∧op _ λ_=>_) (λp=>af::af::ae::af::af::af::af::af::ae::ae::ae::af::af::af::p) (λ_=>by kernel_rfl) λg h1 h2 y3 h4 y5 h6 h7 h8 h9 dq cq bf hk=>g hk λp hk=>(aj tF (aj tF (aj tT (aj h1 (aj tF (aj tF (aj tF (aj tF (aj tT (aj h2 (aj tT (az h4 (az h6 (aj h7 (aj h8 (aj h9 (az cq (aM bf hk))))))))))))))))))
theorem Zr(s:Sc)(m:V)(l:List V)(x z w:FV)(c:Nat)(k:Out→aq→au){r:R}:∀(h1:(aB [c] [39])=af)(h2:(aB [c] [92])=ae)⦃y3⦄(h4:(Sc.fwd (a9 1) s)=ag y3)⦃y5⦄(h6:(Sc.at y3 0)=ag y5)(h7:(dj [y5] (c9.y eH))=af)(h8:(dj [y5] (c9.y eW))=af)(h9:(ax [13,10,133,8232,8233] y5)=af)⦃dq⦄(cq:(kY (zS) (V.str (sL "found unknown escape character %r")) (V.str ([y5])))=ag dq)(bf:(d6 [(V.str (sL "while scanning a double-quoted scalar")),m,dq,(Sc.mark y3)])=ae)(hk:Gv (k (.exc (V.obj 511 [((ai "context"),(V.str (sL "while scanning a double-quoted scalar"))),((ai "context_mark"),m),((ai "problem"),dq),((ai "problem_mark"),(Sc.mark y3)),((ai "note"),V.none)])) (da y3 (.v (V.bool ae)) (.v m) (.own l) x (.v (V.str ([y5]))) z w)) r),Gv (aN cQ 56 eJ (da s (.v (.bool ae)) (.v m) (.own l) x (.v (.str [c])) z w) k) r:=
 Gv.to (E:=λ_=>_∧_∧_∧_∧_∧_∧_∧_∧_∧_∧_∧op _ λ_=>op _ λ_=>_∧_∧_∧op _ λ_=>_) (λp=>af::af::ae::af::af::af::af::af::ae::ae::ae::af::af::af::p) (λ_=>by kernel_rfl) λg h1 h2 y3 h4 y5 h6 h7 h8 h9 dq cq bf hk=>g hk λp hk=>(aj tF (aj tF (aj tT (aj h1 (aj tF (aj tF (aj tF (aj tF (aj tT (aj h2 (aj tT (az h4 (az h6 (aj h7 (aj h8 (aj h9 (az cq (aM bf hk))))))))))))))))))
theorem ZF(s:Sc)(m:V)(l:List V)(x:FV)(c:Nat)(k:Out→aq→au)(h1:(aB [c] [39])=af)(h2:(aB [c] [92])=af){r:R}(hk:Gv (k (.ret (V.lst l)) (cZ s (.v (V.bool ae)) (.v m) (.v (V.lst l)) x (.v (V.str ([c]))))) r):Gv (aN cQ 56 eJ (cZ s (.v (.bool ae)) (.v m) (.own l) x (.v (.str [c]))) k) r:=by
 obtain⟨p,hk⟩:=hk
 exact Gv.of (af::af::ae::af::af::af::af::af::ae::af::af::p) (by kernel_rfl) (aj tF (aj tF (aj tT (aj h1 (aj tF (aj tF (aj tF (aj tF (aj tT (aj h2 (aj tF hk)))))))))))
theorem Zx(s:Sc)(m:V)(l:List V)(x z w:FV)(c:Nat)(k:Out→aq→au)(h1:(aB [c] [39])=af)(h2:(aB [c] [92])=af){r:R}(hk:Gv (k (.ret (V.lst l)) (da s (.v (V.bool ae)) (.v m) (.v (V.lst l)) x (.v (V.str ([c]))) z w)) r):Gv (aN cQ 56 eJ (da s (.v (.bool ae)) (.v m) (.own l) x (.v (.str [c])) z w) k) r:=by
 obtain⟨p,hk⟩:=hk
 exact Gv.of (af::af::ae::af::af::af::af::af::ae::af::af::p) (by kernel_rfl) (aj tF (aj tF (aj tT (aj h1 (aj tF (aj tF (aj tF (aj tF (aj tT (aj h2 (aj tF hk)))))))))))
theorem ZG(s:Sc)(d m:V)(k:Res→Self→au){r:R}:∀⦃a1⦄⦃a2⦄⦃s3⦄(h4:(Gv (bo nB (fg s (.v d) (.v m) (.own []))) ((.ret (V.lst a1)),⟨a2,(ak s3),af⟩)))(hk:Gv (k (.ok (V.lst a1)) (ak s3)) r),Gv (ia [.ak,d,m] [] (ak s) k) r:=
 Gv.to (E:=λ_=>∃_,∃_,∃_,_) (λp=>ae::p) (λ_=>by kernel_rfl) λg a1 a2 s3 h4 hk=>g hk λp hk=>(aC a1 (aC a2 (aC s3 (aj h4 hk))))
theorem ZH(s:Sc)(d m:V)(k:Res→Self→au){r:R}:∀⦃v1⦄⦃a2⦄⦃s3⦄(h4:(Gv (bo nB (fg s (.v d) (.v m) (.own []))) ((.exc v1),⟨a2,(ak s3),af⟩)))(hk:Gv (k (.exc v1) (ak s3)) r),Gv (ia [.ak,d,m] [] (ak s) k) r:=
 Gv.to (E:=λ_=>∃_,∃_,∃_,_) (λp=>af::p) (λ_=>by kernel_rfl) λg v1 a2 s3 h4 hk=>g hk λp hk=>(aC v1 (aC a2 (aC s3 (aj h4 hk))))
theorem Es(s:Sc)(d m c y:FV)(n:Int){r:R}:∀(h1:(bO 0 n&&ltI n 1000)=ae)⦃a2⦄(h3:(Gv (dk (ft nz (eI gu) (bS gu)) (jb (a9 n)) (cZ s d m c (.v (V.int n)) y)) a2))(hr:r=(a2.fst,a2.snd)),Gv (nA (cZ s d m c (.v (.int n)) y) pk) r:=
 Gv.at (E:=tp _ (∃_,_)) ([]) (by kernel_rfl) λg h1 a2 h3 hr=>g (aM h1 (aC a2 (aj h3 hr)))
theorem Et(s:Sc)(d m c y z w:FV)(n:Int){r:R}:∀(h1:(bO 0 n&&ltI n 1000)=ae)⦃a2⦄(h3:(Gv (dk (ft nz (eI gu) (bS gu)) (jb (a9 n)) (da s d m c (.v (V.int n)) y z w)) a2))(hr:r=(a2.fst,a2.snd)),Gv (nA (da s d m c (.v (.int n)) y z w) pk) r:=
 Gv.at (E:=tp _ (∃_,_)) ([]) (by kernel_rfl) λg h1 a2 h3 hr=>g (aM h1 (aC a2 (aj h3 hr)))
theorem Za(s:Sc)(m n:V)(c:List V)(d y:FV)(i:Int){r:R}:∀⦃y1⦄(h2:(Sc.at s i)=ag y1)(h3:(!List.contains [48,49,50,51,52,53,54,55,56,57,65,66,67,68,69,70,97,98,99,100,101,102] y1)=ae)⦃y4⦄(h5:(Sc.at s i)=ag y4)⦃y6⦄(h7:(kY (zS) (V.str (sL "expected escape sequence of %d hexadecimal numbers, but found %r")) (V.tup [n,(V.str ([y4]))]))=ag y6)(h8:(d6 [(V.str (sL "while scanning a double-quoted scalar")),m,y6,(Sc.mark s)])=ae)(hr:r=((.exc (V.obj 511 [((ai "context"),(V.str (sL "while scanning a double-quoted scalar"))),((ai "context_mark"),m),((ai "problem"),y6),((ai "problem_mark"),(Sc.mark s)),((ai "note"),V.none)])),(mf s d (.v m) (.own c) (.v n) y (.v (V.int i))))),Gv (iJ (.int i) (cZ s d (.v m) (.own c) (.v n) y)) r:=
 Gv.at (E:=op _ λ_=>_∧op _ λ_=>op _ λ_=>_) (ae::[]) (by kernel_rfl) λg y1 h2 h3 y4 h5 y6 h7 h8 hr=>g (az h2 (aj h3 (az h5 (az h7 (aM h8 hr)))))
theorem Y_(s:Sc)(m n:V)(c:List V)(d y:FV)(i:Int){r:R}:∀⦃y1⦄(h2:(Sc.at s i)=ag y1)(h3:(!List.contains [48,49,50,51,52,53,54,55,56,57,65,66,67,68,69,70,97,98,99,100,101,102] y1)=af)(hr:r=(.next,(mf s d (.v m) (.own c) (.v n) y (.v (V.int i))))),Gv (iJ (.int i) (cZ s d (.v m) (.own c) (.v n) y)) r:=
 Gv.at (E:=op _ λ_=>_) (af::[]) (by kernel_rfl) λg y1 h2 h3 hr=>g (az h2 (aj h3 hr))
theorem Y' (s:Sc)(m n:V)(c:List V)(d y z:FV)(i:Int){r:R}:∀⦃y1⦄(h2:(Sc.at s i)=ag y1)(h3:(!List.contains [48,49,50,51,52,53,54,55,56,57,65,66,67,68,69,70,97,98,99,100,101,102] y1)=ae)⦃y4⦄(h5:(Sc.at s i)=ag y4)⦃y6⦄(h7:(kY (zS) (V.str (sL "expected escape sequence of %d hexadecimal numbers, but found %r")) (V.tup [n,(V.str ([y4]))]))=ag y6)(h8:(d6 [(V.str (sL "while scanning a double-quoted scalar")),m,y6,(Sc.mark s)])=ae)(hr:r=((.exc (V.obj 511 [((ai "context"),(V.str (sL "while scanning a double-quoted scalar"))),((ai "context_mark"),m),((ai "problem"),y6),((ai "problem_mark"),(Sc.mark s)),((ai "note"),V.none)])),(mf s d (.v m) (.own c) (.v n) y (.v (V.int i))))),Gv (iJ (.int i) (mf s d (.v m) (.own c) (.v n) y z)) r:=
 Gv.at (E:=op _ λ_=>_∧op _ λ_=>op _ λ_=>_) (ae::[]) (by kernel_rfl) λg y1 h2 h3 y4 h5 y6 h7 h8 hr=>g (az h2 (aj h3 (az h5 (az h7 (aM h8 hr)))))
theorem Y9(s:Sc)(m n:V)(c:List V)(d y z:FV)(i:Int){r:R}:∀⦃y1⦄(h2:(Sc.at s i)=ag y1)(h3:(!List.contains [48,49,50,51,52,53,54,55,56,57,65,66,67,68,69,70,97,98,99,100,101,102] y1)=af)(hr:r=(.next,(mf s d (.v m) (.own c) (.v n) y (.v (V.int i))))),Gv (iJ (.int i) (mf s d (.v m) (.own c) (.v n) y z)) r:=
 Gv.at (E:=op _ λ_=>_) (af::[]) (by kernel_rfl) λg y1 h2 h3 hr=>g (az h2 (aj h3 hr))
theorem K8(s:Sc)(m n:V)(c:List V)(d y z w:FV)(i:Int){r:R}:∀⦃y1⦄(h2:(Sc.at s i)=ag y1)(h3:(!List.contains [48,49,50,51,52,53,54,55,56,57,65,66,67,68,69,70,97,98,99,100,101,102] y1)=ae)⦃y4⦄(h5:(Sc.at s i)=ag y4)⦃y6⦄(h7:(kY (zS) (V.str (sL "expected escape sequence of %d hexadecimal numbers, but found %r")) (V.tup [n,(V.str ([y4]))]))=ag y6)(h8:(d6 [(V.str (sL "while scanning a double-quoted scalar")),m,y6,(Sc.mark s)])=ae)(hr:r=((.exc (V.obj 511 [((ai "context"),(V.str (sL "while scanning a double-quoted scalar"))),((ai "context_mark"),m),((ai "problem"),y6),((ai "problem_mark"),(Sc.mark s)),((ai "note"),V.none)])),(da s d (.v m) (.own c) (.v n) y (.v (V.int i)) w))),Gv (iJ (.int i) (da s d (.v m) (.own c) (.v n) y z w)) r:=
 Gv.at (E:=op _ λ_=>_∧op _ λ_=>op _ λ_=>_) (ae::[]) (by kernel_rfl) λg y1 h2 h3 y4 h5 y6 h7 h8 hr=>g (az h2 (aj h3 (az h5 (az h7 (aM h8 hr)))))
theorem K7(s:Sc)(m n:V)(c:List V)(d y z w:FV)(i:Int){r:R}:∀⦃y1⦄(h2:(Sc.at s i)=ag y1)(h3:(!List.contains [48,49,50,51,52,53,54,55,56,57,65,66,67,68,69,70,97,98,99,100,101,102] y1)=af)(hr:r=(.next,(da s d (.v m) (.own c) (.v n) y (.v (V.int i)) w))),Gv (iJ (.int i) (da s d (.v m) (.own c) (.v n) y z w)) r:=
 Gv.at (E:=op _ λ_=>_) (af::[]) (by kernel_rfl) λg y1 h2 h3 hr=>g (az h2 (aj h3 hr))
noncomputable def my:List Nat:=[39,34,92,0,32,9,13,10,133,8232,8233]
def Plain(w:List Nat):Prop:=∀y∈w,my.contains y=af
noncomputable def jB(w:List Nat):List (List Nat):=cv w [] λc r=>[c::r]
inductive At(d:Bool)(s:Sc)(m:V)(l:List V)(c:Nat):aq→Prop
 |p (x:FV):At d s m l c (cZ s (.v (.bool d)) (.v m) (.own l) x (.v (.str [c])))
 |q (x z w:FV) (h:d=ae):At d s m l c (da s (.v (.bool d)) (.v m) (.own l) x (.v (.str [c])) z w)
inductive Bg(d:Bool)(s:Sc)(m:V)(l:List V):aq→Prop
 |s:Bg d s m l (fg s (.v (.bool d)) (.v m) (.own l))
 |p (x y:FV):Bg d s m l (cZ s (.v (.bool d)) (.v m) (.own l) x y)
 |q (x y z w:FV) (h:d=ae):Bg d s m l (da s (.v (.bool d)) (.v m) (.own l) x y z w)
theorem K6{a b c:FV}{loc:FS}:∀(w:List Nat){s:Sc}{n:Nat}{x:Nat}{t u:List Nat},s.aO (u++(w++x::t))→u.length=n→Plain w→my.contains x=ae→
 Gv (bo lC ⟨(b9,.v .ak)::(ai "double",a)::(ai "start_mark",b)::(iS,c)::(dB,.v (.int n))::loc,ak s,af⟩) (.next,⟨(b9,.v .ak)::(ai "double",a)::(ai "start_mark",b)::(iS,c)::(dB,.v (.int (n+w.length:Nat)))::loc,ak s,af⟩)
 | [],s,n,x,t,u,H,hu,_,hx=>iG (t21 s a b c n loc (H.mH hu) (me hx) rfl)
 |y::w,s,n,x,t,u,H,hu,hw,hx=>by
  have:=K6 (a:=a) (b:=b) (c:=c) (loc:=loc) w (u:=u++[y]) (s:=s) (n:=n+1) (x:=x) (t:=t) (by rw[aR];exact H) (by rw[bE,hu];rfl) (λz hz=>hw z (.tail _ hz)) hx
  rw[jz]at this
  exact eZ (t20 s a b c n loc (H.mH hu) (rn (hw y (.head _))) rfl) this
theorem zq{s:Sc}{w:List Nat}{c:Nat}{t:List Nat}(H:s.aO (w++c::t)):s.pre ((w.length:Nat):Int)=ag w∧s.fwd (a9 ((w.length:Nat):Int))=ag (aK w (c::t) s)∧(aK w (c::t) s).at 0=ag c:=by
 have p:=H.pre w.length
 obtain⟨h1,h2⟩:=Sc.aO.fwd w H
 rw[List.take_left]at p
 exact⟨p,h1,h2.df⟩
theorem Zi{d:Bool}{s:Sc}{m:V}{l:List V}{st:aq}{w:List Nat}{c:Nat}{t:List Nat}(B:Bg d s m l st)(H:s.aO (w++c::t))(hw:Plain w)(hc:my.contains c=ae)(hl:l.length≤1000000):
 ∃st',At d (aK w (c::t) s) m (l++cn (jB w)) c st' ∧∀k r,Gv (k .next st') r→Gv (aN cQ 60 pI st k) r:=by
 have L:∀loc,_:=λloc=>K6 (a:=.v (.bool d)) (b:=.v m) (c:=.own l) (loc:=loc) w (u:=[]) (n:=0) H rfl hw hc
 have hb:=cB hl
 cases w with
 |nil=>
  have h0:=H.df
  rw[show l++cn (jB [])=l from gv l]
  cases B with
  |s=>exact⟨_,.p _,λk r hk=>Zg s (.bool d) m l k (L []) rfl h0 hk⟩
  |p x y=>exact⟨_,.p _,λk r hk=>Zc s (.bool d) m l x y k (L [(fL,y)]) rfl h0 hk⟩
  |q x y z w h=>exact⟨_,.q _ _ _ h,λk r hk=>Ze s (.bool d) m l x y z w k (L [(fL,y),(kN,z),(ai "code",w)]) rfl h0 hk⟩
 |cons b w=>
  obtain⟨p,f,h0⟩:=zq H
  have L:∀loc,_:=λloc=>(fY (b::w).length)▸L loc
  cases B with
  |s=>exact⟨_,.p _,λk r hk=>Zh s (.bool d) m l k (L []) uT p hb (lq _) f h0 hk⟩
  |p x y=>exact⟨_,.p _,λk r hk=>Zd s (.bool d) m l x y k (L [(fL,y)]) uT p hb (lq _) f h0 hk⟩
  |q x y z v h=>exact⟨_,.q _ _ _ h,λk r hk=>Zf s (.bool d) m l x y z v k (L [(fL,y),(kN,z),(ai "code",v)]) uT p hb (lq _) f h0 hk⟩
def Goes(st:aq)(B:aq→Prop):Prop:=∃st',B st' ∧∀k r,Gv (k .next st') r→Gv (aN cQ 56 eJ st k) r
def xi(st:aq)(m:V)(s:Sc):Prop:=∃e loc,jG m s.mark e∧∀k r,Gv (k (.exc e) ⟨loc,ak s,af⟩) r→Gv (aN cQ 56 eJ st k) r
def Ends(st:aq)(l:List V)(s:Sc):Prop:=∃loc,∀k r,Gv (k (.ret (.lst l)) ⟨loc,ak s,af⟩) r→Gv (aN cQ 56 eJ st k) r
section
variable{s:Sc}{m:V}{l:List V}{st:aq}{t:List Nat}{c:Nat}
theorem YT(A:At af s m l 39 st)(H:s.aO (39::39::t))(ht:t≠[])(hl:l.length≤1000000):Goes st (Bg af (aK [39,39] t s) m (l++[.str [39]])):=by
 have f:=(Sc.aO.dz [39,39] H ht).1
 cases A with
 |p x=>exact⟨_,.p _ _,λk r hk=>Zo s m l x 39 k rfl H.Be rfl (cB hl) f hk⟩
 |q x z w h=>exact nt h
theorem YS(A:At af s m l c st)(H:s.aO (c::t))(ht:t≠[])(iB:aB [c] [39]=af)(hc:ax [34,92] c=ae)(hl:l.length≤1000000):Goes st (Bg af (aK [c] t s) m (l++[.str [c]])):=by
 have f:=(Sc.aO.dz [c] H ht).1
 cases A with
 |p x=>exact⟨_,.p _ _,λk r hk=>Zn s m l x c k iB hc (cB hl) f hk⟩
 |q x z w h=>exact nt h
theorem YR{d:Nat}(A:At af s m l 39 st)(H:s.aO (39::d::t))(hd:aB [d] [39]=af):Ends st l s:=by
 cases A with
 |p x=>exact⟨_,λk r hk=>Zp s m l x 39 k rfl H.Be hd rfl hk⟩
 |q x z w h=>exact nt h
theorem YU(A:At af s m l c st)(iB:aB [c] [39]=af)(hc:ax [34,92] c=af):Ends st l s:=by
 cases A with
 |p x=>exact⟨_,λk r hk=>Zq s m l x c k iB hc hk⟩
 |q x z w h=>exact nt h
theorem ZM(A:At ae s m l 39 st)(H:s.aO (39::t))(ht:t≠[])(hl:l.length≤1000000):Goes st (Bg ae (aK [39] t s) m (l++[.str [39]])):=by
 have f:=(Sc.aO.dz [39] H ht).1
 cases A with
 |p x=>exact⟨_,.p _ _,λk r hk=>ZD s m l x 39 k rfl (cB hl) f hk⟩
 |q x z w h=>exact⟨_,.q _ _ _ _ h,λk r hk=>Zv s m l x z w 39 k rfl (cB hl) f hk⟩
theorem ZP(A:At ae s m l c st)(iB:aB [c] [39]=af)(hc:aB [c] [92]=af):Ends st l s:=by
 cases A with
 |p x=>exact⟨_,λk r hk=>ZF s m l x c k iB hc hk⟩
 |q x z w h=>exact⟨_,λk r hk=>Zx s m l x z w c k iB hc hk⟩
noncomputable def uW:List (Nat×Nat):=[(48,0),(97,7),(98,8),(116,9),(9,9),(110,10),(118,11),(102,12),(114,13),(101,27),(32,32),(34,34),(92,92),(47,47),(78,133),(95,160),(76,8232),(80,8233)]
noncomputable def yG(o:Option V)(t:List Nat):Bool:=oe (ob o V.s?) (λu=>aB u t) af
noncomputable def yE(o:Option V)(t:Int):Bool:=oe (ob o V.i?) (λu=>aI u t) af
theorem JZ{o:Option V}{t:List Nat}(h:yG o t=ae):o=ag (.str t):=by
 unfold yG at h
 cases q:ob o V.s? with
 |none=>rw[q]at h;exact nt h
 |some u=>rw[q]at h;exact aD q λv hv h' =>by rw[hv,jc h',pq h]
theorem JT{o:Option V}{t:Int}(h:yE o t=ae):o=ag (.int t):=by
 unfold yE at h
 cases q:ob o V.i? with
 |none=>rw[q]at h;exact nt h
 |some u=>rw[q]at h;exact aD q λv hv h' =>by rw[hv,iE h',oQ.mp h]
theorem Sr{e r:Nat}(h:(e,r)∈uW):dj [e] eH.y=ae∧bx (.tab eH.y) (.str [e])=ag (.str [r]):=by
 obtain⟨h1,h2⟩:=aF (List.all_eq_true.mp (by kernel_rfl:(uW.all λp=>dj [p.1] eH.y&&yG (bx (.tab eH.y) (.str [p.1])) [p.2])=ae) _ h)
 exact⟨h1,JZ h2⟩
theorem ZL{e x' :Nat}(he:(e,x')∈uW)(A:At ae s m l 92 st)(H:s.aO (92::e::t))(ht:t≠[])(hl:l.length≤1000000):Goes st (Bg ae (aK [92,e] t s) m (l++[.str [x']])):=by
 obtain⟨f,A1⟩:=Sc.aO.dz [92] (t:=e::t) H (λe=>nomatch e)
 have f2:=(Sc.aO.dz [e] A1 ht).1
 obtain⟨h1,h2⟩:=Sr he
 cases A with
 |p x=>exact⟨_,.p _ _,λk r hk=>ZC s m l x 92 k rfl rfl f A1.df h1 h2 (cB hl) f2 hk⟩
 |q x z w h=>exact⟨_,.q _ _ _ _ h,λk r hk=>Zu s m l x z w 92 k rfl rfl f A1.df h1 h2 (cB hl) f2 hk⟩
theorem Ha{c:Nat}(h:jh.contains c=ae):dj [c] eH.y=af∧dj [c] eW.y=af:=by
 obtain⟨h1,h2⟩:=aF (List.all_eq_true.mp (by kernel_rfl:(jh.all λc=>!(dj [c] eH.y)&& !(dj [c] eW.y))=ae) _ (List.contains_iff_mem.mp h))
 exact⟨(cR _).mp h1,(cR _).mp h2⟩
theorem sg{a b:Nat}(h:a+b≤1000000):aJ (a+b) aZ=ae:=cB h
theorem ig(l:List (List Nat)):(cn l).length=l.length:=e_ ..
theorem ZJ{b mm u t' :List Nat}{ms:List (List Nat)}(hb:cH b mm t)(B:fv t ms u t')(A:At ae s m l 92 st)(H:s.aO (92::(b++t)))(hl:l.length+ms.length≤1000000):Goes st (Bg ae (aK (92::(b++u)) t' s) m (l++cn ms)):=by
 obtain⟨c,r,e,_,h5⟩:=hb.head
 obtain⟨et,d,r',qx⟩:=B.text
 have ht:t≠[]:=by rw[et,qx];exact kM
 obtain⟨f,A1⟩:=Sc.aO.dz [92] (t:=b++t) H (kj ht)
 have h0:(aK [92] (b++t) s).at 0=ag c:=A1.at (i:=0) (by rw[e];rfl)
 obtain⟨t1,t2⟩:=Ha h5
 have A2:=(Sc.aO.dz b A1 ht).2
 have g1:=wM hb A1 ht
 have g2:=xC (d:=.bool ae) (m:=m) B A2 (aL (cF _ _) hl)
 have yv:aJ (l.length+(cn ms).length) aZ=ae:=by rw[ig];exact sg hl
 have eg:aK (92::(b++u)) t' s=aK u t' (aK b t (aK [92] (b++t) s)):=by
  show aK ([92]++(b++u)) t' s=_
  rw[hJ [92],hJ b,aR,←et]
 rw[eg]
 cases A with
 |p x=>exact⟨_,.p _ _,λk r hk=>Zz s m l x 92 k rfl rfl f h0 t1 t2 h5 g1 g2 yv hk⟩
 |q x z w h=>exact⟨_,.q _ _ _ _ h,λk r hk=>Zs s m l x z w 92 k rfl rfl f h0 t1 t2 h5 g1 g2 yv hk⟩
theorem ZK{b mm u t' :List Nat}(hb:cH b mm t)(B:kD t u t')(hm:dT m=ae)(A:At ae s m l 92 st)(H:s.aO (92::(b++t)))(hl:t.length≤1000000):xi st m (aK (92::(b++u)) t' s):=by
 obtain⟨c,r,e,_,h5⟩:=hb.head
 obtain⟨et,qx⟩:=B.text
 have ht:t≠[]:=by rw[et];exact kj qx
 obtain⟨f,A1⟩:=Sc.aO.dz [92] (t:=b++t) H (kj ht)
 have h0:(aK [92] (b++t) s).at 0=ag c:=A1.at (i:=0) (by rw[e];rfl)
 obtain⟨t1,t2⟩:=Ha h5
 have A2:=(Sc.aO.dz b A1 ht).2
 have g1:=wM hb A1 ht
 obtain⟨ev,he,g2⟩:=G1 (d:=.bool ae) (m:=m) B hm A2 hl
 have eg:aK (92::(b++u)) t' s=aK u t' (aK b t (aK [92] (b++t) s)):=by
  show aK ([92]++(b++u)) t' s=_
  rw[hJ [92],hJ b,aR,←et]
 rw[eg]
 cases A with
 |p x=>exact⟨_,_,he,λk r hk=>ZA s m l x 92 k rfl rfl f h0 t1 t2 h5 g1 g2 hk⟩
 |q x z w h=>exact⟨_,_,he,λk r hk=>Zt s m l x z w 92 k rfl rfl f h0 t1 t2 h5 g1 g2 hk⟩
theorem Er{a:List Nat}(h:dT m=ae):d6 [.str a,m,.junk,s.mark]=ae:=by
 show(dT m&&ae)=ae
 rw[h];rfl
noncomputable def qk:List Nat:=[113,39,88,49]
theorem PZ{e:Nat}(h:e∈qk):dj [e] eH.y=af∧dj [e] eW.y=af∧jh.contains e=af∧iL e 1114112=ae:=by
 obtain⟨h1,h⟩:=aF (List.all_eq_true.mp (by kernel_rfl:(qk.all λc=>!(dj [c] eH.y)&&(!(dj [c] eW.y)&&(!(jh.contains c)&&iL c 1114112)))=ae) _ h)
 obtain⟨h2,h⟩:=aF h
 obtain⟨h3,h4⟩:=aF h
 exact⟨(cR _).mp h1,(cR _).mp h2,(cR _).mp h3,h4⟩
theorem Iq{e:Nat}(h:iL e 1114112=ae):kY .Mod (.str (sL "found unknown escape character %r")) (.str [e])=ag .junk:=by
 have:kY .Mod (.str (sL "found unknown escape character %r")) (.str [e])=oe (tt (iL e 1114112) (ag e)) (λ_=>ag .junk) bg:=by kernel_rfl
 rw[this,h];rfl
theorem ZI{e:Nat}(he:e∈qk)(hm:dT m=ae)(A:At ae s m l 92 st)(H:s.aO (92::e::t)):xi st m (aK [92] (e::t) s):=by
 obtain⟨f,A1⟩:=Sc.aO.dz [92] (t:=e::t) H (λe=>nomatch e)
 obtain⟨t1,t2,t3,t4⟩:=PZ he
 cases A with
 |p x=>exact⟨_,_,.mk _ _,λk r hk=>Zy s m l x 92 k rfl rfl f A1.df t1 t2 t3 (Iq t4) (Er hm) hk⟩
 |q x z w h=>exact⟨_,_,.mk _ _,λk r hk=>Zr s m l x z w 92 k rfl rfl f A1.df t1 t2 t3 (Iq t4) (Er hm) hk⟩
end
section
variable{t:V→aq→au}{v:V}{l:List V}{st st' :aq}{r:R}
theorem kg(h:Gv (t v st) (.next,st'))(h2:Gv (dk t l st') r):Gv (dk t (v::l) st) r:=by
 obtain⟨p,h2⟩:=h2
 exact⟨p,_,h,h2⟩
theorem yM{e:V}(h:Gv (t v st) (.exc e,st')):Gv (dk t (v::l) st) (.exc e,st'):=⟨[],_,h,rfl⟩
theorem lX:Gv (dk t [] st) (.next,st):=⟨[],rfl⟩
end
noncomputable def qM:List Nat:=[48,49,50,51,52,53,54,55,56,57,65,66,67,68,69,70,97,98,99,100,101,102]
def oq(w:List Nat):Prop:=∀y∈w,qM.contains y=ae
noncomputable def iF:Nat→Nat→List V
 |_,0=>[]
 |i,n+1=> .int (i:Nat)::iF (i+1) n
theorem JO:∀(a b i:Nat),iF i (a+b)=iF i a++iF (i+a) b
 |0,b,i=>by rw[fY];rfl
 |a+1,b,i=>by
  rw[show a+1+b=a+b+1 from Nat.succ_add a b,show i+(a+1)=i+1+a from by rw[kq a 1,eL]]
  exact congrArg (V.int (i:Nat)::·) (JO a b (i+1))
theorem Mm:∀(n i:Nat),(pJ i n).map (λj=>V.int (j:Nat))=iF i n
 |0,i=>rfl
 |n+1,i=>congrArg _ (Mm n (i+1))
theorem Ml(n:Nat):jb n=iF 0 n:=by
 unfold jb
 rw[List.range_eq_range']
 exact Mm n 0
section
variable{s:Sc}{m:V}{l:List V}{d:FV}{N:V}{y:FV}
theorem J5{r:List V}:∀(w:List Nat){u t:List Nat}{i:Int},s.aO (u++(w++t))→oq w→∃i' :Int,∀{q},Gv (dk iJ r (mf s d (.v m) (.own l) (.v N) y (.v (.int i')))) q→Gv (dk iJ (iF u.length w.length++r) (mf s d (.v m) (.own l) (.v N) y (.v (.int i)))) q
 | [],u,t,i,H,_=>⟨i,λh=>h⟩
 |c::w,u,t,i,H,hw=>by
  obtain⟨i',h⟩:=J5 (r:=r) w (u:=u++[c]) (t:=t) (i:=(u.length:Nat)) (by rw[aR];exact H) λx hx=>hw x (.tail _ hx)
  rw[bE]at h
  exact⟨i',λq=>kg (Y9 s m N l d y _ (u.length:Nat) (H.mH rfl) (me (hw c (.head _))) rfl) (h q)⟩
theorem Mh{r:List V}{z:FV}:∀(w:List Nat){u t:List Nat}{i:Int},s.aO (u++(w++t))→oq w→∃i' :Int,∀{q},Gv (dk iJ r (da s d (.v m) (.own l) (.v N) y (.v (.int i')) z)) q→Gv (dk iJ (iF u.length w.length++r) (da s d (.v m) (.own l) (.v N) y (.v (.int i)) z)) q
 | [],u,t,i,H,_=>⟨i,λh=>h⟩
 |c::w,u,t,i,H,hw=>by
  obtain⟨i',h⟩:=Mh (r:=r) w (u:=u++[c]) (t:=t) (i:=(u.length:Nat)) (by rw[aR];exact H) λx hx=>hw x (.tail _ hx)
  rw[bE]at h
  exact⟨i',λq=>kg (K7 s m N l d y _ z (u.length:Nat) (H.mH rfl) (me (hw c (.head _))) rfl) (h q)⟩
theorem LU{r:List V}{c:Nat}{w t:List Nat}(H:s.aO (c::w++t))(hw:oq (c::w)):∃i' :Int,∀{q},Gv (dk iJ r (mf s d (.v m) (.own l) (.v N) y (.v (.int i')))) q→Gv (dk iJ (iF 0 (w.length+1)++r) (cZ s d (.v m) (.own l) (.v N) y)) q:=by
 obtain⟨i',h⟩:=J5 (s:=s) (m:=m) (l:=l) (d:=d) (N:=N) (y:=y) (r:=r) w (u:=[c]) (t:=t) (i:=(0:Nat)) H λx hx=>hw x (.tail _ hx)
 exact⟨i',λq=>kg (Y_ s m N l d y (0:Nat) (H.mH (u:=[]) rfl) (me (hw c (.head _))) rfl) (h q)⟩
theorem Mi{r:List V}{z z2:FV}{c:Nat}{w t:List Nat}(H:s.aO (c::w++t))(hw:oq (c::w)):∃i' :Int,∀{q},Gv (dk iJ r (da s d (.v m) (.own l) (.v N) y (.v (.int i')) z)) q→Gv (dk iJ (iF 0 (w.length+1)++r) (da s d (.v m) (.own l) (.v N) y z2 z)) q:=by
 obtain⟨i',h⟩:=Mh (s:=s) (m:=m) (l:=l) (d:=d) (N:=N) (y:=y) (z:=z) (r:=r) w (u:=[c]) (t:=t) (i:=(0:Nat)) H λx hx=>hw x (.tail _ hx)
 exact⟨i',λq=>kg (K7 s m N l d y _ z (0:Nat) (H.mH (u:=[]) rfl) (me (hw c (.head _))) rfl) (h q)⟩
end
noncomputable def vz:List (Nat×Nat×List Nat×Nat):=[(120,2,[52,97],74),(117,4,[50,54,51,65],9786),(85,8,[48,48,48,49,102,54,48,65],128522),(120,2,[55,69],126),(120,2,[99,69],206),(117,4,[53,98,67,100],23501),(117,4,[57,56,102,70],39167),(85,8,[48,48,48,49,68,52,66,101],119998)]
noncomputable def ro:List (Nat×Nat):=[(120,2),(117,4),(85,8)]
structure Pd(e n:Nat):Prop where
 h1:dj [e] eH.y=af
 h2:dj [e] eW.y=ae
 h3:bx (.tab eW.y) (.str [e])=ag (.int (n:Nat))
 h4:(bO 0 ((n:Nat):Int)&&ltI ((n:Nat):Int) 1000)=ae
theorem Lg{e n:Nat}(h:(e,n)∈ro):Pd e n:=by
 obtain⟨h1,h⟩:=aF (List.all_eq_true.mp (by kernel_rfl:(ro.all λp=>!(dj [p.1] eH.y)&&(dj [p.1] eW.y&&(yE (bx (.tab eW.y) (.str [p.1])) (p.2:Nat)&&(bO 0 ((p.2:Nat):Int)&&ltI ((p.2:Nat):Int) 1000))))=ae) _ h)
 obtain⟨h2,h⟩:=aF h
 obtain⟨h3,h4⟩:=aF h
 exact⟨(cR _).mp h1,h2,JT h3,h4⟩
noncomputable def Du(e n:Nat):Bool:=ro.any λp=>aH p.1 e&&aH p.2 n
theorem JL{e n:Nat}(h:Du e n=ae):(e,n)∈ro:=by
 obtain⟨p,hp,q⟩:=List.any_eq_true.mp h
 obtain⟨h1,h2⟩:=aF q
 rw[←bG h1,←bG h2];exact hp
structure Pe(e n:Nat)(w:List Nat)(code:Nat):Prop where
 h1:(e,n)∈ro
 h2:w.length=n
 h3:oq w
 h4:gh cQ .int [.str w,.int 16]=ag (.int (code:Nat))
 h5:gh cQ .chr [.int (code:Nat)]=ag (.str [code])
 h6:cY w=ae
theorem VB{e n:Nat}{w:List Nat}{code:Nat}(h:(e,n,w,code)∈vz):Pe e n w code:=by
 obtain⟨h1,h⟩:=aF (List.all_eq_true.mp (by kernel_rfl:(vz.all λp=>Du p.1 p.2.1&&(aH p.2.2.1.length p.2.1&&(p.2.2.1.all qM.contains&&(yE (gh cQ .int [.str p.2.2.1,.int 16]) (p.2.2.2:Nat)&&(yG (gh cQ .chr [.int (p.2.2.2:Nat)]) [p.2.2.2]&&cY p.2.2.1)))))=ae) _ h)
 obtain⟨h2,h⟩:=aF h
 obtain⟨h3,h⟩:=aF h
 obtain⟨h4,h⟩:=aF h
 obtain⟨h5,h6⟩:=aF h
 exact⟨JL h1,bG h2,List.all_eq_true.mp h3,JT h4,JZ h5,h6⟩
section
variable{s:Sc}{m:V}{l:List V}{st:aq}{t:List Nat}
theorem ZN{e n code:Nat}{w:List Nat}(hh:(e,n,w,code)∈vz)(A:At ae s m l 92 st)(H:s.aO (92::e::(w++t)))(ht:t≠[])(hl:l.length≤1000000):Goes st (Bg ae (aK (92::e::w) t s) m (l++[.str [code]])):=by
 obtain⟨q1,q2,q3,q4,q5,q6⟩:=VB hh
 obtain⟨t1,t2,t3,t4⟩:=Lg q1
 obtain⟨f,A1⟩:=Sc.aO.dz [92] (t:=e::(w++t)) H (λe=>nomatch e)
 obtain⟨f2,A2⟩:=Sc.aO.dz [e] (t:=w++t) A1 (kj ht)
 obtain⟨f3,_⟩:=Sc.aO.dz w A2 ht
 have p3:=A2.pre w.length
 rw[List.take_left]at p3
 cases w with
 |nil=>exact nt q6
 |cons c w=>
  rw[←q2]at t3 t4
  have L:∀{q Am},Gv (dk iJ (iF 0 (w.length+1)++[]) Am) q→Gv (dk iJ (jb (c::w).length) Am) q:=λh=>by rw[Ml,←gv (iF 0 (c::w).length)];exact h
  cases A with
  |p x=>
   obtain⟨i,h⟩:=LU (m:=m) (l:=l) (d:=.v (.bool ae)) (N:=.int (c::w).length) (y:=.v (.str [e])) (r:=[]) A2 q3
   exact⟨_,.q _ _ _ _ rfl,λk r hk=>ZE s m l x 92 k rfl rfl f A1.df t1 t2 t3 f2 (Es _ _ _ _ _ _ t4 (L (h lX)) rfl) rfl p3 q4 q5 (cB hl) rfl (lq _) f3 hk⟩
  |q x z v hd=>
   obtain⟨i,h⟩:=Mi (m:=m) (l:=l) (d:=.v (.bool ae)) (N:=.int (c::w).length) (y:=.v (.str [e])) (z:=v) (z2:=z) (r:=[]) A2 q3
   exact⟨_,.q _ _ _ _ rfl,λk r hk=>Zw s m l x z v 92 k rfl rfl f A1.df t1 t2 t3 f2 (Et _ _ _ _ _ _ _ _ t4 (L (h lX)) rfl) rfl p3 q4 q5 (cB hl) rfl (lq _) f3 hk⟩
end
theorem TO{N:Int}{y:Nat}(h:(bO 0 N&&ltI N 1000)=ae)(hb:iL y 1114112=ae):kY .Mod (.str (sL "expected escape sequence of %d hexadecimal numbers, but found %r")) (.tup [.int N,.str [y]])=ag .junk:=by
 have:kY .Mod (.str (sL "expected escape sequence of %d hexadecimal numbers, but found %r")) (.tup [.int N,.str [y]])=ob (tt (iL y 1114112) (ag y)) λ_=>tt (bO 0 N&&ltI N 1000) (ag .junk):=by kernel_rfl
 rw[this,h,hb];rfl
section
variable{s:Sc}{m:V}{l:List V}{st:aq}{t:List Nat}
theorem ZO{e n y:Nat}{w:List Nat}(he:(e,n)∈ro)(hw:w.length<n)(hx:oq w)(hy:qM.contains y=af)(hb:iL y 1114112=ae)(hm:dT m=ae)(A:At ae s m l 92 st)(H:s.aO (92::e::(w++y::t))):xi st m (aK [92,e] (w++y::t) s):=by
 obtain⟨t1,t2,t3,t4⟩:=Lg he
 obtain⟨f,A1⟩:=Sc.aO.dz [92] (t:=e::(w++y::t)) H (λe=>nomatch e)
 obtain⟨f2,A2⟩:=Sc.aO.dz [e] (t:=w++y::t) A1 kM
 obtain⟨k,ek⟩:=Nat.exists_eq_add_of_lt hw
 have er:jb n=iF 0 w.length++ .int ((w.length:Nat):Int)::iF (w.length+1) k:=by
  rw[Ml,ek,eL,JO,fY];rfl
 have F:=TO t4 hb
 have yz:=rn hy
 have N4:=Er (s:=aK [92,e] (w++y::t) s) (a:=sL "while scanning a double-quoted scalar") hm
 have ha:=A2.mH rfl
 cases w with
 |nil=>cases A with
  |p x=>exact⟨_,_,.mk _ _,λq r hk=>Ld s m l x 92 q rfl rfl f A1.df t1 t2 t3 f2 (Es _ _ _ _ _ _ t4 (by rw[rx,er];exact yM (Za _ m _ l _ _ _ ha yz ha F N4 rfl)) rfl) hk⟩
  |q x z v hd=>exact⟨_,_,.mk _ _,λq r hk=>Lc s m l x z v 92 q rfl rfl f A1.df t1 t2 t3 f2 (Et _ _ _ _ _ _ _ _ t4 (by rw[rx,er];exact yM (K8 _ m _ l _ _ _ _ _ ha yz ha F N4 rfl)) rfl) hk⟩
 |cons c w=>cases A with
  |p x=>
   obtain⟨i,h⟩:=LU (m:=m) (l:=l) (d:=.v (.bool ae)) (N:=.int n) (y:=.v (.str [e])) (r:=.int (((c::w).length:Nat):Int)::iF ((c::w).length+1) k) A2 hx
   exact⟨_,_,.mk _ _,λq r hk=>Ld s m l x 92 q rfl rfl f A1.df t1 t2 t3 f2 (Es _ _ _ _ _ _ t4 (by rw[rx,er];exact h (yM (Y' _ m _ l _ _ _ _ ha yz ha F N4 rfl))) rfl) hk⟩
  |q x z v hd=>
   obtain⟨i,h⟩:=Mi (m:=m) (l:=l) (d:=.v (.bool ae)) (N:=.int n) (y:=.v (.str [e])) (z:=v) (z2:=z) (r:=.int (((c::w).length:Nat):Int)::iF ((c::w).length+1) k) A2 hx
   exact⟨_,_,.mk _ _,λq r hk=>Lc s m l x z v 92 q rfl rfl f A1.df t1 t2 t3 f2 (Et _ _ _ _ _ _ _ _ t4 (by rw[rx,er];exact h (yM (K8 _ m _ l _ _ _ _ _ ha yz ha F N4 rfl))) rfl) hk⟩
end
inductive It:Bool→List Nat→List (List Nat)→List Nat→Prop where
 |lit (t:List Nat) (ht:t≠[]):It ae [39] [[39]] t
 |BS (e r:Nat) (t:List Nat) (he:(e,r)∈uW) (ht:t≠[]):It ae [92,e] [[r]] t
 |num (e n:Nat) (w:List Nat) (code:Nat) (t:List Nat) (hh:(e,n,w,code)∈vz) (ht:t≠[]):It ae (92::e::w) [[code]] t
 |eD (b mm t:List Nat) (ms:List (List Nat)) (u t' :List Nat) (hb:cH b mm t) (B:fv t ms u t'):It ae (92::(b++u)) ms t'
 |pair (t:List Nat) (ht:t≠[]):It af [39,39] [[39]] t
 |one (c:Nat) (t:List Nat) (iB:aB [c] [39]=af) (hc:ax [34,92] c=ae) (ht:t≠[]):It af [c] [[c]] t
inductive mE:List Nat→List Nat→Prop where
 |bad (e:Nat) (t:List Nat) (he:e∈qk):mE [92] (e::t)
 |num (e n:Nat) (w:List Nat) (y:Nat) (t:List Nat) (he:(e,n)∈ro) (hw:w.length<n) (hx:oq w) (hy:qM.contains y=af) (hb:iL y 1114112=ae):mE [92,e] (w++y::t)
 |eD (b mm t u t' :List Nat) (hb:cH b mm t) (B:kD t u t'):mE (92::(b++u)) t'
theorem fv.short{t:List Nat}{ms:List (List Nat)}{u t' :List Nat}(h:fv t ms u t'):ms.length≤u.length:=by
 induction h with
 |stop=>exact gx _
 |go w b m t ms u t' hw hb hs hd h ih=>
  obtain⟨c,r,e,_⟩:=hb.head
  rw[e,bE,bE,lE,lE]
  exact aL (jy ih) (by rw[kq r.length 1,eL,kq 1];exact aL (jy (cF _ _)) (cF _ _))
structure O7(src:List Nat)(ms:List (List Nat))(r:List Nat)(c:Nat)(t:List Nat):Prop where
 ne:r≠[]
 short:ms.length≤src.length
 e:src=c::t
 stop:my.contains c=ae
theorem It.facts{d:Bool}{src:List Nat}{ms:List (List Nat)}{r:List Nat}(h:It d src ms r):∃c t,O7 src ms r c t:=by
 induction h with
 |lit t ht=>exact⟨_,_,ht,eF _,rfl,rfl⟩
 |BS e r t he ht=>exact⟨_,_,ht,cF _ _,rfl,rfl⟩
 |num e n w code t hh ht=>exact⟨_,_,ht,cF _ _,rfl,rfl⟩
 |eD b mm t ms u t' hb B=>
  obtain⟨_,c,r,e⟩:=B.text
  exact⟨_,_,by rw[e];exact(λe=>nomatch e),aL B.short (by rw[lE,bE];exact zT (cF _ _)),rfl,rfl⟩
 |pair t ht=>exact⟨_,_,ht,cF _ _,rfl,rfl⟩
 |one c t iB hc ht=>
  refine⟨_,_,ht,eF _,rfl,?_⟩
  rcases List.mem_cons.mp (List.contains_iff_mem.mp hc)with rfl|h
  ·rfl
  ·rw[List.mem_singleton.mp h];rfl
theorem mE.ne{src r:List Nat}(h:mE src r):r≠[]∧∃t,src=92::t:=by
 induction h with
 |bad e t he=>exact⟨(λe=>nomatch e),_,rfl⟩
 |num e n w y t=>exact⟨kM,_,rfl⟩
 |eD b mm t u t' hb B=>exact⟨B.text.2,_,rfl⟩
section
variable{s:Sc}{m:V}{l:List V}{st:aq}
theorem It.run{d:Bool}{c:Nat}{t:List Nat}{ms:List (List Nat)}{r:List Nat}(h:It d (c::t) ms r)(A:At d s m l c st)(H:s.aO (c::t++r))(hl:l.length+ms.length≤1000000):Goes st (Bg d (aK (c::t) r s) m (l++cn ms)):=by
 have jM:=aL (dh _ _) hl
 generalize e:c::t=src at h H⊢
 induction h with
 |lit t ht=>cases e;exact ZM A H ht jM
 |BS e r t he ht=>cases e;exact ZL he A H ht jM
 |num e n w code t hh ht=>cases e;exact ZN hh A H ht jM
 |eD b mm t ms u t' hb B=>
  cases e
  refine ZJ hb B A ?_ hl
  have:=B.text.1
  rw[this,←aR];exact H
 |pair t ht=>cases e;exact YT A H ht jM
 |one c t iB hc ht=>cases e;exact YS A H ht iB hc jM
theorem mE.run{t r:List Nat}(h:mE (92::t) r)(hm:dT m=ae)(A:At ae s m l 92 st)(H:s.aO (92::t++r))(hl:(92::t++r).length≤1000000):xi st m (aK (92::t) r s):=by
 generalize e:92::t=src at h H hl⊢
 induction h with
 |bad e t he=>exact ZI he hm A H
 |num e n w y t he hw hx hy hb=>exact ZO he hw hx hy hb hm A H
 |eD b mm t u t' hb B=>
  have et:=B.text.1
  refine ZK hb B hm A (by rw[et,←aR];exact H) (aL ?_ hl)
  rw[et,zx,lE,aR]
  exact zT (aL (cF _ b.length) (pP (bE ..).symm))
end
inductive Sg:Bool→Nat→List Nat→Prop
 |t (c:Nat) (r:List Nat) (iB:aB [c] [39]=af) (h:aB [c] [92]=af):Sg ae c r
 |close (c' :Nat) (r:List Nat) (h:aB [c'] [39]=af):Sg af 39 (c' ::r)
 |f (c:Nat) (r:List Nat) (iB:aB [c] [39]=af) (h:ax [34,92] c=af):Sg af c r
theorem Sg.run{s:Sc}{m:V}{l:List V}{st:aq}{d:Bool}{c:Nat}{t:List Nat}(h:Sg d c t)(A:At d s m l c st)(H:s.aO (c::t)):Ends st l s:=by
 induction h with
 |t c r iB h=>exact ZP A iB h
 |close c' r h=>exact YR A H h
 |f c r iB h=>exact YU A iB h
inductive Ns(d:Bool):List Nat→List (List Nat)→List Nat→List Nat→Prop where
 |stop (w:List Nat) (x:Nat) (t:List Nat) (hw:Plain w) (hx:my.contains x=ae) (h:Sg d x t):Ns d (w++x::t) (jB w) w (x::t)
 |go (w src:List Nat) (ms:List (List Nat)) (r:List Nat) (mc:List (List Nat)) (u t' :List Nat) (hw:Plain w) (hi:It d src ms r) (h:Ns d r mc u t'):Ns d (w++(src++r)) (jB w++(ms++mc)) (w++(src++u)) t'
inductive gb:Bool→List Nat→List Nat→List Nat→Prop where
 |here (w src r:List Nat) (hw:Plain w) (hi:mE src r):gb ae (w++(src++r)) (w++src) r
 |go (d:Bool) (w src:List Nat) (ms:List (List Nat)) (r:List Nat) (u t' :List Nat) (hw:Plain w) (hi:It d src ms r) (h:gb d r u t'):gb d (w++(src++r)) (w++(src++u)) t'
theorem abt(w:List Nat):(jB w).length≤w.length:=by
 cases w with
 |nil=>exact eF _
 |cons c w=>exact cF _ _
theorem Ns.text{d:Bool}{t:List Nat}{ms:List (List Nat)}{u t' :List Nat}(h:Ns d t ms u t'):t=u++t' ∧∃c r,t' =c::r∧my.contains c=ae:=by
 induction h with
 |stop w x t hw hx h=>exact⟨rfl,x,t,rfl,hx⟩
 |go w src ms r mc u t' hw hi h ih=>exact⟨by rw[ih.1,aR,aR],ih.2⟩
theorem gb.text{d:Bool}{t u t' :List Nat}(h:gb d t u t'):t=u++t' ∧t' ≠[]:=by
 induction h with
 |here w src r hw hi=>exact⟨(aR ..).symm,hi.ne.1⟩
 |go d w src ms r u t' hw hi h ih=>exact⟨by rw[ih.1,aR,aR],ih.2⟩
theorem Zj{st:aq}{r:R}(h:Gv (aN cQ 60 (bS mh) st pk) r):Gv (nB st) r:=by
 obtain⟨p,h⟩:=h
 exact Gv.of (ae::p) (E:=(ae=ae∧aN cQ 60 (bS mh) st pk p r)) (by kernel_rfl) ⟨rfl,h⟩
section
variable{s:Sc}{m:V}{l:List V}{st:aq}{d:Bool}
theorem Ep{w:List Nat}{c:Nat}{t:List Nat}(B:Bg d s m l st)(H:s.aO (w++c::t))(hw:Plain w)(hc:my.contains c=ae)(hl:l.length≤1000000):∃st',At d (aK w (c::t) s) m (l++cn (jB w)) c st' ∧∀r,Gv (aN cQ 56 eJ st' pk) r→Gv (nB st) r:=by
 obtain⟨st',A,h⟩:=Zi B H hw hc hl
 exact⟨st',A,λr hr=>Zj (jn (a:=pI) (b:=eJ) (n:=55) (by kernel_rfl) (by kernel_rfl) (h _ _ hr))⟩
theorem abr{l:List V}{w:List Nat}{k:Nat}(h:l.length+((jB w).length+k)≤1000000):(l++cn (jB w)).length+k≤1000000:=by rw[bE,ig,eL];exact h
theorem Lb{w src r:List Nat}{ms:List (List Nat)}(B:Bg d s m l st)(hw:Plain w)(hi:It d src ms r)(H:s.aO (w++(src++r)))(hl:l.length+((jB w).length+ms.length)≤1000000):(aK (w++src) r s).aO r∧∃st',Bg d (aK (w++src) r s) m (l++cn (jB w++ms)) st' ∧Gv (nB st) (.next,st'):=by
 obtain⟨c,t,f⟩:=hi.facts
 obtain⟨ht,_,rfl,hc⟩:=f
 obtain⟨pY,A,h⟩:=Ep B H hw hc (aL (dh _ _) hl)
 have A1:=(Sc.aO.fwd w H).2
 rw[hJ]
 obtain⟨Am,B2,h2⟩:=hi.run A A1 (abr hl)
 rw[aR,←ko]at B2
 exact⟨(Sc.aO.dz (c::t) A1 ht).2,Am,B2,h _ (h2 _ _ (Gv.leaf _))⟩
end
section
variable{m:V}{d:Bool}
theorem Zl{t:List Nat}{ms:List (List Nat)}{u t' :List Nat}(N:Ns d t ms u t'):∀{s:Sc}{l:List V}{st:aq},Bg d s m l st→s.aO t→l.length+ms.length≤1000000→∃loc,Gv (bo nB st) (.ret (.lst (l++cn ms)),⟨loc,ak (aK u t' s),af⟩):=by
 induction N with
 |stop w x t hw hx h=>
  intro s l st B H hl
  obtain⟨pY,A,h1⟩:=Ep B H hw hx (aL (dh _ _) hl)
  obtain⟨loc,h2⟩:=h.run A (Sc.aO.fwd w H).2
  exact⟨loc,DY (h1 _ (h2 _ _ (Gv.leaf _)))⟩
 |go w src ms r mc u t' hw hi h ih=>
  intro s l st B H hl
  rw[←aR,bE]at hl
  obtain⟨A1,pY,B1,h1⟩:=Lb B hw hi H (aL (dh _ mc.length) (by rw[eL,←bE];exact hl))
  obtain⟨loc,h2⟩:=ih B1 A1 (by rw[bE,ig,eL];exact hl)
  rw[sQ h.text.1]
  rw[aR,←ko,aR]at h2
  exact⟨loc,eZ h1 h2⟩
theorem Eo{t:List Nat}{ms:List (List Nat)}{u t' :List Nat}(N:Ns d t ms u t'){s:Sc}(H:s.aO t)(hl:ms.length≤1000000):Gives ia [.ak,.bool d,m] s (.ok (.lst (cn ms))) (aK u t' s):=by
 obtain⟨loc,h⟩:=Zl N (m:=m) (l:=[]) .s H (by rw[pN,fY];exact hl)
 exact ZG s (.bool d) m bA h (Gv.leaf _)
theorem XI{a:Nat}{w src r:List Nat}{ms:List (List Nat)}(h:ms.length≤src.length)(hl:a+(w++(src++r)).length≤1000000):a+((jB w).length+ms.length)+r.length≤1000000:=aL (by
 rw[bE,bE,eL,eL]
 exact c8 (tI (abt w) (gw h _)) _) hl
theorem Zk{t u t' :List Nat}(N:gb d t u t')(hm:dT m=ae):∀{s:Sc}{l:List V}{st:aq},Bg d s m l st→s.aO t→l.length+t.length≤1000000→∃e loc,jG m (aK u t' s).mark e∧Gv (bo nB st) (.exc e,⟨loc,ak (aK u t' s),af⟩):=by
 induction N with
 |here w src r hw hi=>
  intro s l st B H hl
  obtain⟨_,t,rfl⟩:=hi.ne
  obtain⟨pY,A,h1⟩:=Ep B H hw rfl (aL (dh _ _) hl)
  have A1:=(Sc.aO.fwd w H).2
  rw[hJ]
  obtain⟨e,loc,he,h2⟩:=hi.run hm A A1 (aL (cF _ _) (aL (pP (bE ..).symm) (aL (cF _ _) hl)))
  exact⟨e,loc,he,q9 (h1 _ (h2 _ _ (Gv.leaf _)))⟩
 |go d w src ms r u t' hw hi h ih=>
  intro s l st B H hl
  obtain⟨c,t,f⟩:=hi.facts
  have i6:=XI f.short hl
  obtain⟨A1,pY,B1,h1⟩:=Lb B hw hi H (aL (dh _ _) i6)
  obtain⟨e,loc,he,h2⟩:=ih B1 A1 (by rw[bE,ig,bE];exact i6)
  rw[sQ h.text.1]
  exact⟨e,loc,he,eZ h1 h2⟩
theorem La{t u t' :List Nat}(N:gb d t u t')(hm:dT m=ae){s:Sc}(H:s.aO t)(hl:t.length≤1000000):∃e,jG m (aK u t' s).mark e∧Gives ia [.ak,.bool d,m] s (.exc e) (aK u t' s):=by
 obtain⟨e,loc,he,h⟩:=Zk N hm (l:=[]) .s H (by rw[pN,fY];exact hl)
 exact⟨e,he,ZH s (.bool d) m bA h (Gv.leaf _)⟩
end
noncomputable def iY(s:Sc)(y d c m q:FV):aq:=⟨[(b9,.v .ak),(ai "style",y),(ai "double",d),(iS,c),(ai "start_mark",m),(ai "quote",q)],ak s,af⟩
noncomputable def MI(v y:List Nat)(a b:V):V:=.obj 499 [(ai "value",.str v),(ai "plain",.bool af),(ai "start_mark",a),(ai "end_mark",b),(ai "style",.str y)]
theorem acp(s:Sc)(a b c:FV)(n:Int)(loc:FS){r:R}:∀⦃y1⦄(h2:(Sc.at s n)=ag y1)(h3:(ax [32,9] y1)=ae)(hr:r=(.next,⟨(((ai "self"),(.v V.ak))::(((ai "double"),a)::(((ai "start_mark"),b)::(((ai "chunks"),c)::(((ai "length"),(.v (V.int (n+1))))::loc))))),(ak s),af⟩)),Gv (spT ⟨(ai "self",.v .ak)::(ai "double",a)::(ai "start_mark",b)::(ai "chunks",c)::(ai "length",.v (.int n))::loc,ak s,af⟩) r:=
 Gv.at (E:=op _ λ_=>_) (ae::[]) (by kernel_rfl) λg y1 h2 h3 hr=>g (az h2 (aj h3 hr))
theorem acq(s:Sc)(a b c:FV)(n:Int)(loc:FS){r:R}:∀⦃y1⦄(h2:(Sc.at s n)=ag y1)(h3:(ax [32,9] y1)=af)(hr:r=(.brk,⟨(((ai "self"),(.v V.ak))::(((ai "double"),a)::(((ai "start_mark"),b)::(((ai "chunks"),c)::(((ai "length"),(.v (V.int n)))::loc))))),(ak s),af⟩)),Gv (spT ⟨(ai "self",.v .ak)::(ai "double",a)::(ai "start_mark",b)::(ai "chunks",c)::(ai "length",.v (.int n))::loc,ak s,af⟩) r:=
 Gv.at (E:=op _ λ_=>_) (af::[]) (by kernel_rfl) λg y1 h2 h3 hr=>g (az h2 (aj h3 hr))
theorem acs(s:Sc)(d m:V)(k:Res→Self→au){r:R}:∀⦃i1⦄⦃s2⦄(h3:(Gv (bo spT (fW s (.v d) (.v m) (.own []) (.v (V.int 0)))) (.next,(fW s2 (.v d) (.v m) (.own []) (.v (V.int i1))))))⦃y4⦄(h5:(Sc.pre s2 i1)=ag y4)(h6:(bO 0 i1)=ae)⦃y7⦄(h8:(Sc.fwd (a9 i1) s2)=ag y7)⦃y9⦄(aY:(Sc.at y7 0)=ag y9)(cq:(aB [y9] [0])=ae)(bf:(d6 [(V.str (sL "while scanning a quoted scalar")),m,(V.str (sL "found unexpected end of stream")),(Sc.mark y7)])=ae)(hk:Gv (k (.exc (V.obj 511 [((ai "context"),(V.str (sL "while scanning a quoted scalar"))),((ai "context_mark"),m),((ai "problem"),(V.str (sL "found unexpected end of stream"))),((ai "problem_mark"),(Sc.mark y7)),((ai "note"),V.none)])) (ak y7)) r),Gv (j1 [.ak,d,m] [] (ak s) k) r:=
 Gv.to (E:=λ_=>∃_,∃_,_∧op _ λ_=>tp _ (op _ λ_=>op _ λ_=>_)) (λp=>ae::p) (λ_=>by kernel_rfl) λg i1 s2 h3 y4 h5 h6 y7 h8 y9 aY cq bf hk=>g hk λp hk=>(aC i1 (aC s2 (aj h3 (az h5 (aM h6 (az h8 (az aY (aj cq (aM bf hk)))))))))
theorem acr(s:Sc)(d m:V)(k:Res→Self→au){r:R}:∀⦃i1⦄⦃s2⦄(h3:(Gv (bo spT (fW s (.v d) (.v m) (.own []) (.v (V.int 0)))) (.next,(fW s2 (.v d) (.v m) (.own []) (.v (V.int i1))))))⦃y4⦄(h5:(Sc.pre s2 i1)=ag y4)(h6:(bO 0 i1)=ae)⦃y7⦄(h8:(Sc.fwd (a9 i1) s2)=ag y7)⦃y9⦄(aY:(Sc.at y7 0)=ag y9)(cq:(aB [y9] [0])=af)(bf:(ax [13,10,133,8232,8233] y9)=ae)⦃cP⦄⦃cy⦄(dt:(Gives d8 [V.ak] y7 (.ok (V.str cP)) cy))⦃eh⦄⦃fH⦄(qn:(Gives jg [V.ak,d,m] cy (.ok (V.lst eh)) fH))(jr:(!aB cP [10])=ae)(I7:(aJ (av (V.str cP::cg)+av eh) aZ)=ae)(hk:Gv (k (.ok (V.lst ((V.str cP)::eh))) (ak fH)) r),Gv (j1 [.ak,d,m] [] (ak s) k) r:=
 Gv.to (E:=λ_=>∃_,∃_,_∧op _ λ_=>tp _ (op _ λ_=>op _ λ_=>_∧_∧∃_,∃_,_∧∃_,∃_,_)) (λp=>af::ae::ae::ae::p) (λ_=>by kernel_rfl) λg i1 s2 h3 y4 h5 h6 y7 h8 y9 aY cq bf cP cy dt eh fH qn jr I7 hk=>g hk λp hk=>(aC i1 (aC s2 (aj h3 (az h5 (aM h6 (az h8 (az aY (aj cq (aj bf (aC cP (aC cy (aj dt (aC eh (aC fH (aj qn (aj jr (aM I7 hk)))))))))))))))))
theorem acv(s:Sc)(d m:V)(k:Res→Self→au){r:R}:∀⦃i1⦄⦃s2⦄(h3:(Gv (bo spT (fW s (.v d) (.v m) (.own []) (.v (V.int 0)))) (.next,(fW s2 (.v d) (.v m) (.own []) (.v (V.int i1))))))⦃y4⦄(h5:(Sc.pre s2 i1)=ag y4)(h6:(bO 0 i1)=ae)⦃y7⦄(h8:(Sc.fwd (a9 i1) s2)=ag y7)⦃y9⦄(aY:(Sc.at y7 0)=ag y9)(cq:(aB [y9] [0])=af)(bf:(ax [13,10,133,8232,8233] y9)=ae)⦃cP⦄⦃cy⦄(dt:(Gives d8 [V.ak] y7 (.ok (V.str cP)) cy))⦃eh⦄⦃fH⦄(qn:(Gives jg [V.ak,d,m] cy (.ok (V.lst eh)) fH))(jr:(!aB cP [10])=af)(k7:(aJ (av eh) aZ)=ae)(vm:(!cY eh)=ae)(k8:(aJ (av (V.str [32]::cg)+av eh) aZ)=ae)(hk:Gv (k (.ok (V.lst ((V.str [32])::eh))) (ak fH)) r),Gv (j1 [.ak,d,m] [] (ak s) k) r:=
 Gv.to (E:=λ_=>∃_,∃_,_∧op _ λ_=>tp _ (op _ λ_=>op _ λ_=>_∧_∧∃_,∃_,_∧∃_,∃_,_∧_∧op _ λ_=>_)) (λp=>af::ae::ae::af::ae::p) (λ_=>by kernel_rfl) λg i1 s2 h3 y4 h5 h6 y7 h8 y9 aY cq bf cP cy dt eh fH qn jr k7 vm k8 hk=>g hk λp hk=>(aC i1 (aC s2 (aj h3 (az h5 (aM h6 (az h8 (az aY (aj cq (aj bf (aC cP (aC cy (aj dt (aC eh (aC fH (aj qn (aj jr (az (o:=(truth (V.lst eh))) (Q:=λj5=>(!j5)=ae∧(tp (aJ (av (V.str [32]::cg)+av eh) aZ) (k (.ok (V.lst ((V.str [32])::eh))) (ak fH) p r))) (ez k7 rfl) (aj vm (aM k8 hk)))))))))))))))))))
theorem acu(s:Sc)(d m:V)(k:Res→Self→au){r:R}:∀⦃i1⦄⦃s2⦄(h3:(Gv (bo spT (fW s (.v d) (.v m) (.own []) (.v (V.int 0)))) (.next,(fW s2 (.v d) (.v m) (.own []) (.v (V.int i1))))))⦃y4⦄(h5:(Sc.pre s2 i1)=ag y4)(h6:(bO 0 i1)=ae)⦃y7⦄(h8:(Sc.fwd (a9 i1) s2)=ag y7)⦃y9⦄(aY:(Sc.at y7 0)=ag y9)(cq:(aB [y9] [0])=af)(bf:(ax [13,10,133,8232,8233] y9)=ae)⦃cP⦄⦃cy⦄(dt:(Gives d8 [V.ak] y7 (.ok (V.str cP)) cy))⦃eh⦄⦃fH⦄(qn:(Gives jg [V.ak,d,m] cy (.ok (V.lst eh)) fH))(jr:(!aB cP [10])=af)(k7:(aJ (av eh) aZ)=ae)(vm:(!cY eh)=af)(k8:(aJ (av cg+av eh) aZ)=ae)(hk:Gv (k (.ok (V.lst eh)) (ak fH)) r),Gv (j1 [.ak,d,m] [] (ak s) k) r:=
 Gv.to (E:=λ_=>∃_,∃_,_∧op _ λ_=>tp _ (op _ λ_=>op _ λ_=>_∧_∧∃_,∃_,_∧∃_,∃_,_∧_∧op _ λ_=>_)) (λp=>af::ae::ae::af::af::p) (λ_=>by kernel_rfl) λg i1 s2 h3 y4 h5 h6 y7 h8 y9 aY cq bf cP cy dt eh fH qn jr k7 vm k8 hk=>g hk λp hk=>(aC i1 (aC s2 (aj h3 (az h5 (aM h6 (az h8 (az aY (aj cq (aj bf (aC cP (aC cy (aj dt (aC eh (aC fH (aj qn (aj jr (az (o:=(truth (V.lst eh))) (Q:=λj5=>(!j5)=af∧(tp (aJ (av cg+av eh) aZ) (k (.ok (V.lst eh)) (ak fH) p r))) (ez k7 rfl) (aj vm (aM k8 hk)))))))))))))))))))
theorem acx(s:Sc)(d m:V)(k:Res→Self→au){r:R}:∀⦃i1⦄⦃s2⦄(h3:(Gv (bo spT (fW s (.v d) (.v m) (.own []) (.v (V.int 0)))) (.next,(fW s2 (.v d) (.v m) (.own []) (.v (V.int i1))))))⦃y4⦄(h5:(Sc.pre s2 i1)=ag y4)(h6:(bO 0 i1)=ae)⦃y7⦄(h8:(Sc.fwd (a9 i1) s2)=ag y7)⦃y9⦄(aY:(Sc.at y7 0)=ag y9)(cq:(aB [y9] [0])=af)(bf:(ax [13,10,133,8232,8233] y9)=ae)⦃cP⦄⦃cy⦄(dt:(Gives d8 [V.ak] y7 (.ok (V.str cP)) cy))⦃Ax⦄⦃fH⦄(qn:(Gives jg [V.ak,d,m] cy (.exc Ax) fH))(hk:Gv (k (.exc Ax) (ak fH)) r),Gv (j1 [.ak,d,m] [] (ak s) k) r:=
 Gv.to (E:=λ_=>∃_,∃_,_∧op _ λ_=>tp _ (op _ λ_=>op _ λ_=>_∧_∧∃_,∃_,_∧∃_,∃_,_)) (λp=>af::ae::af::p) (λ_=>by kernel_rfl) λg i1 s2 h3 y4 h5 h6 y7 h8 y9 aY cq bf cP cy dt Ax fH qn hk=>g hk λp hk=>(aC i1 (aC s2 (aj h3 (az h5 (aM h6 (az h8 (az aY (aj cq (aj bf (aC cP (aC cy (aj dt (aC Ax (aC fH (aj qn hk)))))))))))))))
theorem acw(s:Sc)(d m:V)(k:Res→Self→au){r:R}:∀⦃i1⦄⦃s2⦄(h3:(Gv (bo spT (fW s (.v d) (.v m) (.own []) (.v (V.int 0)))) (.next,(fW s2 (.v d) (.v m) (.own []) (.v (V.int i1))))))⦃y4⦄(h5:(Sc.pre s2 i1)=ag y4)(h6:(bO 0 i1)=ae)⦃y7⦄(h8:(Sc.fwd (a9 i1) s2)=ag y7)⦃y9⦄(aY:(Sc.at y7 0)=ag y9)(cq:(aB [y9] [0])=af)(bf:(ax [13,10,133,8232,8233] y9)=af)(hk:Gv (k (.ok (V.lst [(V.str y4)])) (ak y7)) r),Gv (j1 [.ak,d,m] [] (ak s) k) r:=
 Gv.to (E:=λ_=>∃_,∃_,_∧op _ λ_=>tp _ (op _ λ_=>op _ λ_=>_)) (λp=>af::af::p) (λ_=>by kernel_rfl) λg i1 s2 h3 y4 h5 h6 y7 h8 y9 aY cq bf hk=>g hk λp hk=>(aC i1 (aC s2 (aj h3 (az h5 (aM h6 (az h8 (az aY (aj cq (aj bf hk)))))))))
theorem Up(s:Sc)(y:FV)(q:List Nat)(d m:V)(l:List V){r:R}:∀⦃y1⦄(h2:(Sc.at s 0)=ag y1)(h3:(!aB [y1] q)=ae)⦃a4⦄⦃s5⦄(h6:(Gives j1 [V.ak,d,m] s (.ok (V.lst a4)) s5))(h7:(aJ (av l+av a4) aZ)=ae)⦃a8⦄⦃s9⦄(aY:(Gives ia [V.ak,d,m] s5 (.ok (V.lst a8)) s9))(cq:(aJ (av (bp l a4)+av a8) aZ)=ae)(hr:r=(.next,(iY s9 y (.v d) (.own (bp (bp l a4) a8)) (.v m) (.v (V.str q))))),Gv (iZ (iY s y (.v d) (.own l) (.v m) (.v (.str q)))) r:=
 Gv.at (E:=op _ λ_=>_∧∃_,∃_,_∧tp _ (∃_,∃_,_)) (ae::ae::ae::[]) (by kernel_rfl) λg y1 h2 h3 a4 s5 h6 h7 a8 s9 aY cq hr=>g (az h2 (aj h3 (aC a4 (aC s5 (aj h6 (aM h7 (aC a8 (aC s9 (aj aY (aM cq hr))))))))))
theorem Uq(s:Sc)(y:FV)(q:List Nat)(d m:V)(l:List V){r:R}:∀⦃y1⦄(h2:(Sc.at s 0)=ag y1)(h3:(!aB [y1] q)=ae)⦃a4⦄⦃s5⦄(h6:(Gives j1 [V.ak,d,m] s (.ok (V.lst a4)) s5))(h7:(aJ (av l+av a4) aZ)=ae)⦃v8⦄⦃s9⦄(aY:(Gives ia [V.ak,d,m] s5 (.exc v8) s9))(hr:r=((.exc v8),(iY s9 y (.v d) (.own (bp l a4)) (.v m) (.v (V.str q))))),Gv (iZ (iY s y (.v d) (.own l) (.v m) (.v (.str q)))) r:=
 Gv.at (E:=op _ λ_=>_∧∃_,∃_,_∧tp _ (∃_,∃_,_)) (ae::ae::af::[]) (by kernel_rfl) λg y1 h2 h3 a4 s5 h6 h7 v8 s9 aY hr=>g (az h2 (aj h3 (aC a4 (aC s5 (aj h6 (aM h7 (aC v8 (aC s9 (aj aY hr)))))))))
theorem Ur(s:Sc)(y:FV)(q:List Nat)(d m:V)(l:List V){r:R}:∀⦃y1⦄(h2:(Sc.at s 0)=ag y1)(h3:(!aB [y1] q)=ae)⦃v4⦄⦃s5⦄(h6:(Gives j1 [V.ak,d,m] s (.exc v4) s5))(hr:r=((.exc v4),(iY s5 y (.v d) (.own l) (.v m) (.v (V.str q))))),Gv (iZ (iY s y (.v d) (.own l) (.v m) (.v (.str q)))) r:=
 Gv.at (E:=op _ λ_=>_∧∃_,∃_,_) (ae::af::[]) (by kernel_rfl) λg y1 h2 h3 v4 s5 h6 hr=>g (az h2 (aj h3 (aC v4 (aC s5 (aj h6 hr)))))
theorem Us(s:Sc)(y:FV)(q:List Nat)(d m:V)(l:List V){r:R}:∀⦃y1⦄(h2:(Sc.at s 0)=ag y1)(h3:(!aB [y1] q)=af)(hr:r=(.brk,(iY s y (.v d) (.own l) (.v m) (.v (V.str q))))),Gv (iZ (iY s y (.v d) (.own l) (.v m) (.v (.str q)))) r:=
 Gv.at (E:=op _ λ_=>_) (af::[]) (by kernel_rfl) λg y1 h2 h3 hr=>g (az h2 (aj h3 hr))
theorem Uh(s:Sc)(y:List Nat)(k:Res→Self→au){r:R}:∀(h1:(aB y [34])=ae)⦃y2⦄(h3:(Sc.at s 0)=ag y2)⦃y4⦄(h5:(Sc.fwd (a9 1) s)=ag y4)⦃a6⦄⦃s7⦄(h8:(Gives ia [V.ak,(V.bool ae),(Sc.mark s)] y4 (.ok (V.lst a6)) s7))(h9:(aJ (av cg+av a6) aZ)=ae)⦃d_⦄⦃dU⦄(bf:(Gv (bo iZ (iY s7 (.v (V.str y)) (.v (V.bool ae)) (.own a6) (.v (Sc.mark s)) (.v (V.str ([y2]))))) (.next,(iY dU (.v (V.str y)) (.v (V.bool ae)) (.own d_) (.v (Sc.mark s)) (.v (V.str ([y2])))))))⦃oh⦄(hM:(Sc.fwd (a9 1) dU)=ag oh)⦃ij⦄(eY:(gq d_)=ag ij)(hU:(short ij&&short d_)=ae)(hk:Gv (k (.ok (V.obj 499 [((ai "value"),(V.str ij)),((ai "plain"),(V.bool af)),((ai "start_mark"),(Sc.mark s)),((ai "end_mark"),(Sc.mark oh)),((ai "style"),(V.str y))])) (ak oh)) r),Gv (iX [.ak,.str y] [] (ak s) k) r:=
 Gv.to (E:=λ_=>_∧op _ λ_=>op _ λ_=>∃_,∃_,_∧tp _ (∃_,∃_,_∧op _ λ_=>op _ λ_=>_)) (λp=>ae::ae::ae::p) (λ_=>by kernel_rfl) λg h1 y2 h3 y4 h5 a6 s7 h8 h9 d_ dU bf oh hM ij eY hU hk=>g hk λp hk=>(aj h1 (az h3 (az h5 (aC a6 (aC s7 (aj h8 (aM h9 (aC d_ (aC dU (aj bf (az hM (az eY (aM hU hk)))))))))))))
theorem Uj(s:Sc)(y:List Nat)(k:Res→Self→au){r:R}:∀(h1:(aB y [34])=ae)⦃y2⦄(h3:(Sc.at s 0)=ag y2)⦃y4⦄(h5:(Sc.fwd (a9 1) s)=ag y4)⦃a6⦄⦃s7⦄(h8:(Gives ia [V.ak,(V.bool ae),(Sc.mark s)] y4 (.ok (V.lst a6)) s7))(h9:(aJ (av cg+av a6) aZ)=ae)⦃v10⦄⦃gZ⦄⦃gD⦄(dg:(Gv (bo iZ (iY s7 (.v (V.str y)) (.v (V.bool ae)) (.own a6) (.v (Sc.mark s)) (.v (V.str ([y2]))))) ((.exc v10),⟨gZ,(ak gD),af⟩)))(hk:Gv (k (.exc v10) (ak gD)) r),Gv (iX [.ak,.str y] [] (ak s) k) r:=
 Gv.to (E:=λ_=>_∧op _ λ_=>op _ λ_=>∃_,∃_,_∧tp _ (∃_,∃_,∃_,_)) (λp=>ae::ae::af::p) (λ_=>by kernel_rfl) λg h1 y2 h3 y4 h5 a6 s7 h8 h9 v10 gZ gD dg hk=>g hk λp hk=>(aj h1 (az h3 (az h5 (aC a6 (aC s7 (aj h8 (aM h9 (aC v10 (aC gZ (aC gD (aj dg hk)))))))))))
theorem Ui(s:Sc)(y:List Nat)(k:Res→Self→au){r:R}:∀(h1:(aB y [34])=ae)⦃y2⦄(h3:(Sc.at s 0)=ag y2)⦃y4⦄(h5:(Sc.fwd (a9 1) s)=ag y4)⦃v6⦄⦃s7⦄(h8:(Gives ia [V.ak,(V.bool ae),(Sc.mark s)] y4 (.exc v6) s7))(hk:Gv (k (.exc v6) (ak s7)) r),Gv (iX [.ak,.str y] [] (ak s) k) r:=
 Gv.to (E:=λ_=>_∧op _ λ_=>op _ λ_=>∃_,∃_,_) (λp=>ae::af::p) (λ_=>by kernel_rfl) λg h1 y2 h3 y4 h5 v6 s7 h8 hk=>g hk λp hk=>(aj h1 (az h3 (az h5 (aC v6 (aC s7 (aj h8 hk))))))
theorem Ul(s:Sc)(y:List Nat)(k:Res→Self→au){r:R}:∀(h1:(aB y [34])=af)⦃y2⦄(h3:(Sc.at s 0)=ag y2)⦃y4⦄(h5:(Sc.fwd (a9 1) s)=ag y4)⦃a6⦄⦃s7⦄(h8:(Gives ia [V.ak,(V.bool af),(Sc.mark s)] y4 (.ok (V.lst a6)) s7))(h9:(aJ (av cg+av a6) aZ)=ae)⦃d_⦄⦃dU⦄(bf:(Gv (bo iZ (iY s7 (.v (V.str y)) (.v (V.bool af)) (.own a6) (.v (Sc.mark s)) (.v (V.str ([y2]))))) (.next,(iY dU (.v (V.str y)) (.v (V.bool af)) (.own d_) (.v (Sc.mark s)) (.v (V.str ([y2])))))))⦃oh⦄(hM:(Sc.fwd (a9 1) dU)=ag oh)⦃ij⦄(eY:(gq d_)=ag ij)(hU:(short ij&&short d_)=ae)(hk:Gv (k (.ok (V.obj 499 [((ai "value"),(V.str ij)),((ai "plain"),(V.bool af)),((ai "start_mark"),(Sc.mark s)),((ai "end_mark"),(Sc.mark oh)),((ai "style"),(V.str y))])) (ak oh)) r),Gv (iX [.ak,.str y] [] (ak s) k) r:=
 Gv.to (E:=λ_=>_∧op _ λ_=>op _ λ_=>∃_,∃_,_∧tp _ (∃_,∃_,_∧op _ λ_=>op _ λ_=>_)) (λp=>af::ae::ae::p) (λ_=>by kernel_rfl) λg h1 y2 h3 y4 h5 a6 s7 h8 h9 d_ dU bf oh hM ij eY hU hk=>g hk λp hk=>(aj h1 (az h3 (az h5 (aC a6 (aC s7 (aj h8 (aM h9 (aC d_ (aC dU (aj bf (az hM (az eY (aM hU hk)))))))))))))
theorem Uo(s:Sc)(y:List Nat)(k:Res→Self→au){r:R}:∀(h1:(aB y [34])=af)⦃y2⦄(h3:(Sc.at s 0)=ag y2)⦃y4⦄(h5:(Sc.fwd (a9 1) s)=ag y4)⦃a6⦄⦃s7⦄(h8:(Gives ia [V.ak,(V.bool af),(Sc.mark s)] y4 (.ok (V.lst a6)) s7))(h9:(aJ (av cg+av a6) aZ)=ae)⦃v10⦄⦃gZ⦄⦃gD⦄(dg:(Gv (bo iZ (iY s7 (.v (V.str y)) (.v (V.bool af)) (.own a6) (.v (Sc.mark s)) (.v (V.str ([y2]))))) ((.exc v10),⟨gZ,(ak gD),af⟩)))(hk:Gv (k (.exc v10) (ak gD)) r),Gv (iX [.ak,.str y] [] (ak s) k) r:=
 Gv.to (E:=λ_=>_∧op _ λ_=>op _ λ_=>∃_,∃_,_∧tp _ (∃_,∃_,∃_,_)) (λp=>af::ae::af::p) (λ_=>by kernel_rfl) λg h1 y2 h3 y4 h5 a6 s7 h8 h9 v10 gZ gD dg hk=>g hk λp hk=>(aj h1 (az h3 (az h5 (aC a6 (aC s7 (aj h8 (aM h9 (aC v10 (aC gZ (aC gD (aj dg hk)))))))))))
theorem Um(s:Sc)(y:List Nat)(k:Res→Self→au){r:R}:∀(h1:(aB y [34])=af)⦃y2⦄(h3:(Sc.at s 0)=ag y2)⦃y4⦄(h5:(Sc.fwd (a9 1) s)=ag y4)⦃v6⦄⦃s7⦄(h8:(Gives ia [V.ak,(V.bool af),(Sc.mark s)] y4 (.exc v6) s7))(hk:Gv (k (.exc v6) (ak s7)) r),Gv (iX [.ak,.str y] [] (ak s) k) r:=
 Gv.to (E:=λ_=>_∧op _ λ_=>op _ λ_=>∃_,∃_,_) (λp=>af::af::p) (λ_=>by kernel_rfl) λg h1 y2 h3 y4 h5 v6 s7 h8 hk=>g hk λp hk=>(aj h1 (az h3 (az h5 (aC v6 (aC s7 (aj h8 hk))))))
theorem Sc.aO.go{s:Sc}{u t t' :List Nat}(H:s.aO t)(e:t=u++t')(h:t' ≠[]):(aK u t' s).aO t' :=(Sc.aO.dz u (e▸H) h).2
theorem vh{w u t t' :List Nat}{s:Sc}(e:t=u++t'):aK (w++u) t' s=aK u t' (aK w t s):=by rw[e,hJ]
theorem tm{t u t' :List Nat}(e:t=u++t'):t.length=u.length+t'.length:=by rw[e,bE]
theorem XO(w b t:List Nat):t.length≤(w++(b++t)).length:=by
 rw[bE,bE]
 exact aL (cF _ _) (cF _ _)
theorem M7{a b c:FV}{loc:FS}:∀(w:List Nat){s:Sc}{n:Nat}{x:Nat}{t u:List Nat},s.aO (u++(w++x::t))→u.length=n→dr w→ax [32,9] x=af→
 Gv (bo spT ⟨(b9,.v .ak)::(ai "double",a)::(ai "start_mark",b)::(iS,c)::(dB,.v (.int n))::loc,ak s,af⟩) (.next,⟨(b9,.v .ak)::(ai "double",a)::(ai "start_mark",b)::(iS,c)::(dB,.v (.int (n+w.length:Nat)))::loc,ak s,af⟩)
 | [],s,n,x,t,u,H,hu,_,hx=>iG (acq s a b c n loc (H.mH hu) hx rfl)
 |y::w,s,n,x,t,u,H,hu,hw,hx=>by
  have:=M7 (a:=a) (b:=b) (c:=c) (loc:=loc) w (u:=u++[y]) (s:=s) (n:=n+1) (x:=x) (t:=t) (by rw[aR];exact H) (by rw[bE,hu];rfl) (λz hz=>hw z (.tail _ hz)) hx
  rw[jz]at this
  exact eZ (acp s a b c n loc (H.mH hu) (hw y (.head _)) rfl) this
theorem Ft{s:Sc}{w:List Nat}{c:Nat}{t:List Nat}(H:s.aO (w++c::t))(hw:dr w)(hc:ax [32,9] c=af)(d m:V):Gv (bo spT (fW s (.v d) (.v m) (.own []) (.v (.int 0)))) (.next,fW s (.v d) (.v m) (.own []) (.v (.int (w.length:Nat)))):=(fY w.length)▸M7 (loc:=[]) w (u:=[]) (n:=0) H rfl hw hc
theorem QE{c:Nat}(h:jh.contains c=ae):aB [c] [0]=af:=by
 have:=List.all_eq_true.mp (show jh.all (λc=>!aB [c] [0])=ae by kernel_rfl) c (List.contains_iff_mem.mp h)
 cases q:aB [c] [0]with
 |false=>rfl
 |true=>rw[q]at this;exact this.symm
noncomputable def wO(m:List Nat)(ms:List (List Nat)):List (List Nat):=br (aB m [10]) (cv ms [[32]] λa b=>a::b) (m::ms)
inductive iq:List Nat→List (List Nat)→List Nat→List Nat→Prop where
 |blank (w:List Nat) (c:Nat) (t:List Nat) (hw:dr w) (hc:ax [32,9] c=af) (h0:aB [c] [0]=af) (hb:jh.contains c=af):iq (w++c::t) [w] w (c::t)
 |brk (w b mm t:List Nat) (ms:List (List Nat)) (u t' :List Nat) (hw:dr w) (hb:cH b mm t) (B:fv t ms u t'):iq (w++(b++t)) (wO mm ms) (w++(b++u)) t'
inductive oF:List Nat→List Nat→List Nat→Prop where
 |eof (w t:List Nat) (hw:dr w):oF (w++0::t) w (0::t)
 |brk (w b mm t u t' :List Nat) (hw:dr w) (hb:cH b mm t) (B:kD t u t'):oF (w++(b++t)) (w++(b++u)) t'
section
variable{s:Sc}{d m:V}{w b mm t u t' :List Nat}{ms:List (List Nat)}
structure Pr(s:Sc)(d m:V)(w b mm t:List Nat)(c:Nat)(i:Int)(z:List Nat):Prop where
 len:Gv (bo spT (fW s (.v d) (.v m) (.own []) (.v (.int 0)))) (.next,fW s (.v d) (.v m) (.own []) (.v (.int i)))
 pre:s.pre i=ag z
 pos:bO 0 i=ae
 fwd:s.fwd (a9 i)=ag (aK w (b++t) s)
 df:(aK w (b++t) s).at 0=ag c
 no0:aB [c] [0]=af
 brk:ax [13,10,133,8232,8233] c=ae
 slb:Gives d8 [.ak] (aK w (b++t) s) (.ok (.str mm)) (aK (w++b) t s)
 ahead:(aK (w++b) t s).aO t
theorem M4(H:s.aO (w++(b++t)))(hw:dr w)(hb:cH b mm t)(ht:t≠[]):∃c i z,Pr s d m w b mm t c i z:=by
 obtain⟨c,r,e,hc,h5⟩:=hb.head
 have H' :=H
 rw[e]at H'
 obtain⟨p,f,h0⟩:=zq H'
 have A:=(Sc.aO.dz w H (by rw[e];exactλe=>nomatch e)).2
 have E:=hJ w b t s
 refine⟨c,_,_,Ft H' hw hc d m,p,lq _,by rw[e];exact f,by rw[e];exact h0,QE h5,h5,?_,?_⟩
 ·rw[E];exact wM hb A ht
 ·rw[E];exact(Sc.aO.dz b A ht).2
theorem fv.ne(B:fv t ms u t'):t≠[]:=by
 obtain⟨et,c',r',qx⟩:=B.text
 rw[et,qx];exact kM
theorem iq.run(h:iq t ms u t')(H:s.aO t)(hl:ms.length≤900000):Gives j1 [.ak,d,m] s (.ok (.lst (cn ms))) (aK u t' s):=by
 induction h with
 |blank w c t hw hc h0 hb=>
  obtain⟨p,f,Vf⟩:=zq H
  exact acw s d m bA (Ft H hw hc d m) p (lq _) f Vf h0 hb (Gv.leaf _)
 |brk w b mm t ms u t' hw hb B=>
  obtain⟨c,i,z,h1,h2,h3,h4,h5,h6,h7,h8,A⟩:=M4 (d:=d) (m:=m) H hw hb B.ne
  rw[sQ B.text.1]
  unfold wO at hl⊢
  cases q:aB mm [10]with
  |false=>
   rw[q]at hl
   have hl:ms.length+1≤900000:=hl
   have hm:=wt hl
   exact acr s d m bA h1 h2 h3 h4 h5 h6 h7 h8 (xC B A (aL hm (by decide))) (rn q) (cB (by rw[ig];exact aL (c8 hm 1) (by decide))) (Gv.leaf _)
  |true=>cases ms with
   |nil=>exact acv s d m bA h1 h2 h3 h4 h5 h6 h7 h8 (xC B A (gx _)) (me q) rfl rfl rfl (Gv.leaf _)
   |cons a ms=>
    rw[q]at hl
    have hb:=cB (n:=(cn (a::ms)).length) (by rw[ig];exact aL hl (by decide))
    exact acu s d m bA h1 h2 h3 h4 h5 h6 h7 h8 (xC B A (aL hl (by decide))) (me q) hb rfl (by rw[pN,fY];exact hb) (Gv.leaf _)
theorem oF.run(h:oF t u t')(hm:dT m=ae)(H:s.aO t)(hl:t.length≤900000):∃e,jG m (aK u t' s).mark e∧Gives j1 [.ak,d,m] s (.exc e) (aK u t' s):=by
 induction h with
 |eof w t hw=>
  obtain⟨p,f,h0⟩:=zq H
  exact⟨_,.mk _ _,acs s d m bA (Ft H hw rfl d m) p (lq _) f h0 rfl (v_ hm) (Gv.leaf _)⟩
 |brk w b mm t u t' hw hb B=>
  have ht:t≠[]:=by rw[B.text.1];exact kj B.text.2
  obtain⟨c,i,z,h1,h2,h3,h4,h5,h6,h7,h8,A⟩:=M4 (d:=d) (m:=m) H hw hb ht
  rw[sQ B.text.1]
  obtain⟨e,he,h9⟩:=G1 (d:=d) B hm A (aL (XO w b t) (aL hl (by decide)))
  exact⟨e,he,acx s d m bA h1 h2 h3 h4 h5 h6 h7 h8 h9 (Gv.leaf _)⟩
end
theorem w' (a b:List (List Nat)):cn (a++b)=cn a++cn b:=ko ..
inductive fw(ms:List (List Nat))(n:Nat):Prop
 |mk (a:ms.length≤n) (b:ms.flatten.length≤n)
theorem fw.app{a b:List (List Nat)}{m n:Nat}(h:fw a m)(g:fw b n):fw (a++b) (m+n):=by
 obtain⟨h1,h2⟩:=h
 obtain⟨g1,g2⟩:=g
 exact⟨by rw[bE];exact tI h1 g1,by rw[nG,bE];exact tI h2 g2⟩
theorem fw.le{a:List (List Nat)}{m n:Nat}(h:fw a m)(g:m≤n):fw a n:=by
 obtain⟨h1,h2⟩:=h
 exact⟨aL h1 g,aL h2 g⟩
theorem sH(c:List Nat){n:Nat}(h:c.length≤n)(h1:1≤n):fw [c] n:=⟨h1,by rw[zF];exact h⟩
theorem Ca{n:Nat}:fw [] n:=⟨gx _,gx _⟩
theorem tj(a b c:List Nat):(a++(b++c)).length=a.length+(b.length+c.length):=by rw[bE,bE]
theorem cH.few{b m t:List Nat}(h:cH b m t):fw [m] b.length:=by
 induction h<;>exact sH _ (by decide) (by decide)
theorem fv.few{t:List Nat}{ms:List (List Nat)}{u t' :List Nat}(h:fv t ms u t'):fw ms u.length:=by
 induction h with
 |stop=>exact Ca
 |go w b m t ms u t' hw hb hs hd h ih=>
  rw[tj]
  exact(hb.few.app ih).le (cF _ _)
theorem M5{b m t:List Nat}{ms:List (List Nat)}{n:Nat}(hb:cH b m t)(h:fw ms n):fw (wO m ms) (b.length+n):=by
 unfold wO
 cases aB m [10]with
 |false=>exact hb.few.app h
 |true=>cases ms with
  |nil=>
   obtain⟨h1,_⟩:=hb.few
   exact sH _ (aL h1 (dh _ _)) (aL h1 (dh _ _))
  |cons a ms=>exact h.le (cF _ _)
theorem iq.few{t:List Nat}{ms:List (List Nat)}{u t' :List Nat}(h:iq t ms u t'):fw ms (u.length+1):=by
 induction h with
 |blank w c t hw hc h0 hb=>exact sH _ (dh _ _) (cF _ _)
 |brk w b mm t ms u t' hw hb B=>
  rw[tj]
  exact(M5 hb B.few).le (aL (cF _ _) (dh _ _))
theorem iq.Ia{t:List Nat}{ms:List (List Nat)}{u t' :List Nat}(h:iq t ms u t')(h1:1≤u.length):fw ms u.length:=by
 induction h with
 |blank w c t hw hc h0 hb=>exact sH _ (eF _) h1
 |brk w b mm t ms u t' hw hb B=>
  rw[tj]
  exact(M5 hb B.few).le (cF _ _)
theorem iq.text{t:List Nat}{ms:List (List Nat)}{u t' :List Nat}(h:iq t ms u t'):t=u++t' ∧t' ≠[]:=by
 induction h with
 |blank w c t hw hc h0 hb=>exact⟨rfl,λe=>nomatch e⟩
 |brk w b mm t ms u t' hw hb B=>
  obtain⟨e,c,r,e2⟩:=B.text
  exact⟨by rw[e,aR,aR],by rw[e2];exactλe=>nomatch e⟩
theorem oF.text{t u t' :List Nat}(h:oF t u t'):t=u++t' ∧t' ≠[]:=by
 induction h with
 |eof w t hw=>exact⟨rfl,λe=>nomatch e⟩
 |brk w b mm t u t' hw hb B=>exact⟨by rw[B.text.1,aR,aR],B.text.2⟩
theorem It.few{d:Bool}{src:List Nat}{ms:List (List Nat)}{r:List Nat}(h:It d src ms r):fw ms src.length:=by
 induction h with
 |eD b mm t ms u t' hb B=>
  refine B.few.le (aL ?_ (pQ _))
  rw[bE]
  exact cF _ _
 |_=>exact sH _ (cF _ _) (cF _ _)
theorem Mz(w:List Nat):fw (jB w) w.length:=by
 cases w with
 |nil=>exact Ca
 |cons c w=>exact sH _ (eF _) (cF _ _)
theorem Ns.few{d:Bool}{t:List Nat}{ms:List (List Nat)}{u t' :List Nat}(h:Ns d t ms u t'):fw ms u.length:=by
 induction h with
 |stop w x t hw hx h=>exact Mz w
 |go w src ms r mc u t' hw hi h ih=>
  rw[tj]
  exact(Mz w).app (hi.few.app ih)
theorem Ns.ne{d:Bool}{t:List Nat}{ms:List (List Nat)}{u t' :List Nat}(h:Ns d t ms u t'):t' ≠[]:=by
 obtain⟨_,c,r,e,_⟩:=h.text
 rw[e];exactλe=>nomatch e
inductive Fq(d:Bool)(q:Nat):List Nat→List (List Nat)→List Nat→List Nat→Prop where
 |stop (t:List Nat):Fq d q (q::t) [] [] (q::t)
 |go (c:Nat) (t0:List Nat) (ms:List (List Nat)) (u r:List Nat) (dZ:List (List Nat)) (u1 r1:List Nat) (ja:List (List Nat)) (u2 r2:List Nat) (hc:aB [c] [q]=af) (hu:1≤u.length) (h:iq (c::t0) ms u r) (h1:Ns d r dZ u1 r1) (h2:Fq d q r1 ja u2 r2):Fq d q (c::t0) (ms++(dZ++ja)) (u++(u1++u2)) r2
inductive mC(d:Bool)(q:Nat):List Nat→List Nat→List Nat→Prop where
 |sp (c:Nat) (t0 u r:List Nat) (hc:aB [c] [q]=af) (h:oF (c::t0) u r):mC d q (c::t0) u r
 |ns (c:Nat) (t0:List Nat) (ms:List (List Nat)) (u r u1 r1:List Nat) (hc:aB [c] [q]=af) (h:iq (c::t0) ms u r) (h1:gb d r u1 r1):mC d q (c::t0) (u++u1) r1
 |go (c:Nat) (t0:List Nat) (ms:List (List Nat)) (u r:List Nat) (dZ:List (List Nat)) (u1 r1:List Nat) (u2 r2:List Nat) (hc:aB [c] [q]=af) (hu:1≤u.length) (h:iq (c::t0) ms u r) (h1:Ns d r dZ u1 r1) (h2:mC d q r1 u2 r2):mC d q (c::t0) (u++(u1++u2)) r2
inductive O4(q:Nat)(t:List Nat)(ms:List (List Nat))(u t' :List Nat):Prop
 |mk (few:fw ms u.length) (text:t=u++t') (hd:∃r,t' =q::r)
theorem Fq.DO{d:Bool}{q:Nat}{t:List Nat}{ms:List (List Nat)}{u t' :List Nat}(h:Fq d q t ms u t'):O4 q t ms u t' :=by
 induction h with
 |stop t=>exact⟨Ca,rfl,⟨_,rfl⟩⟩
 |go c t0 ms u r dZ u1 r1 ja u2 r2 hc hu h h1 h2 ih=>
  obtain⟨i1,i2,i3⟩:=ih
  exact⟨by rw[tj];exact(h.Ia hu).app (h1.few.app i1),by rw[h.text.1,h1.text.1,i2,aR,aR],i3⟩
theorem mC.text{d:Bool}{q:Nat}{t u t' :List Nat}(h:mC d q t u t'):t=u++t' ∧t' ≠[]:=by
 induction h with
 |sp c t0 u r hc h=>exact h.text
 |ns c t0 ms u r u1 r1 hc h h1=>exact⟨by rw[h.text.1,h1.text.1,aR],h1.text.2⟩
 |go c t0 ms u r dZ u1 r1 u2 r2 hc hu h h1 h2 ih=>exact⟨by rw[h.text.1,h1.text.1,ih.1,aR,aR],ih.2⟩
theorem Ct{a b c t x y:List Nat}{s:Sc}(e:t=a++x)(f:x=b++y){z:List Nat}(g:y=c++z):aK (a++(b++c)) z s=aK c z (aK b y (aK a x s)):=by rw[hJ,aR,←g,←f,hJ,←g]
section
variable{d:Bool}{q:Nat}{m:V}{y:List Nat}
noncomputable def o5(s:Sc)(y:List Nat)(d:Bool)(l:List V)(m:V)(q:Nat):aq:=iY s (.v (.str y)) (.v (.bool d)) (.own l) (.v m) (.v (.str [q]))
theorem Ie{s:Sc}{l:List V}{c:Nat}{t0 u r u1 r1:List Nat}{ms dZ:List (List Nat)}(hc:aB [c] [q]=af)(h:iq (c::t0) ms u r)(h1:Ns d r dZ u1 r1)(H:s.aO (c::t0))(hl:l.length+(ms.length+dZ.length)≤900000):
 (aK u1 r1 (aK u r s)).aO r1∧Gv (iZ (o5 s y d l m q)) (.next,o5 (aK u1 r1 (aK u r s)) y d (l++cn (ms++dZ)) m q):=by
 have A:=H.go h.text.1 h.text.2
 have B:=A.go h1.text.1 h1.ne
 have jM:ms.length+dZ.length≤900000:=aL (cF _ _) hl
 refine⟨B,?_⟩
 rw[w',←aR]
 exact Up s _ [q] _ m l H.df (rn hc) (h.run H (aL (dh _ _) jM)) (cB (by
  rw[ig];exact aL (aL (c8 (dh _ _) _) hl) (by decide))) (Eo h1 A (aL (aL (cF _ _) jM) (by decide))) (cB (by
  show(l++cn ms).length+_≤_
  rw[bE,ig,ig,eL];exact aL hl (by decide))) rfl
theorem Ti{t:List Nat}{ms:List (List Nat)}{u t' :List Nat}(F:Fq d q t ms u t'):∀{s:Sc}{l:List V},s.aO t→l.length+ms.length≤900000→Gv (bo iZ (o5 s y d l m q)) (.next,o5 (aK u t' s) y d (l++cn ms) m q):=by
 induction F with
 |stop t=>
  intro s l H hl
  rw[show l++cn []=l from gv l]
  exact iG (Us s _ [q] _ m l H.df (me (yT.mpr rfl)) rfl)
 |go c t0 ms u r dZ u1 r1 ja u2 r2 hc hu h h1 h2 ih=>
  intro s l H hl
  obtain⟨_,e2,_⟩:=h2.DO
  rw[←aR,bE,←eL]at hl
  obtain⟨B,h3⟩:=Ie (d:=d) (q:=q) (m:=m) (y:=y) (l:=l) hc h h1 H (by rw[←bE];exact aL (dh _ _) hl)
  have I:=ih (l:=l++cn (ms++dZ)) B (by rw[bE,ig];exact hl)
  rw[aR,←w',aR]at I
  rw[Ct h.text.1 h1.text.1 e2]
  exact eZ h3 I
theorem Tb{ms:List (List Nat)}{a b:Nat}(h:fw ms (a+1))(hb:1≤b):ms.length≤a+b:=by
 obtain⟨h,_⟩:=h
 exact aL h (c8 hb _)
theorem YJ{t:List Nat}(h:t≠[]):1≤t.length:=by
 cases t with
 |nil=>exact absurd rfl h
 |cons a t=>exact cF _ _
theorem Th{t u t' :List Nat}(F:mC d q t u t')(hm:dT m=ae):∀{s:Sc}{l:List V},s.aO t→l.length+t.length≤900000→∃e loc,jG m (aK u t' s).mark e∧Gv (bo iZ (o5 s y d l m q)) (.exc e,⟨loc,ak (aK u t' s),af⟩):=by
 induction F with
 |sp c t0 u r hc h=>
  intro s l H hl
  obtain⟨e,he,h9⟩:=h.run (d:=.bool d) hm H (aL (cF _ _) hl)
  exact⟨e,_,he,q9 (Ur s _ [q] _ m l H.df (rn hc) h9 rfl)⟩
 |ns c t0 ms u r u1 r1 hc h h1=>
  intro s l H hl
  rw[tm h.text.1]at hl
  have h5:=Tb h.few (YJ h.text.2)
  have h6:=aL (c8 h5 _) hl
  rw[vh h1.text.1]
  obtain⟨e,he,h9⟩:=La (d:=d) h1 hm (H.go h.text.1 h.text.2) (aL (aL (aL (cF _ _) (cF _ _)) hl) (by decide))
  exact⟨e,_,he,q9 (Uq s _ [q] _ m l H.df (rn hc) (h.run H (aL (cF _ _) h6)) (cB (by rw[ig];exact aL h6 (by decide))) h9 rfl)⟩
 |go c t0 ms u r dZ u1 r1 u2 r2 hc hu h h1 h2 ih=>
  intro s l H hl
  obtain⟨f1,_⟩:=(h.Ia hu).app h1.few
  rw[bE]at f1
  rw[tm h.text.1,tm h1.text.1,←eL u.length,←eL]at hl
  have f2:=c8 f1 l.length
  obtain⟨B,h3⟩:=Ie (d:=d) (q:=q) (m:=m) (y:=y) (l:=l) hc h h1 H (aL f2 (aL (dh _ _) hl))
  obtain⟨e,loc,he,I⟩:=ih (l:=l++cn (ms++dZ)) B (by rw[bE,ig,bE];exact aL (gw f2 _) hl)
  rw[Ct h.text.1 h1.text.1 h2.text.1]
  exact⟨e,loc,he,eZ h3 I⟩
end
inductive Fs(q:Nat):List Nat→List Nat→List Nat→List Nat→Prop where
 |mk (t:List Nat) (ms:List (List Nat)) (u r:List Nat) (dZ:List (List Nat)) (u1 r1:List Nat) (h:Ns (aH q 34) t ms u r) (h1:Fq (aH q 34) q r dZ u1 (q::r1)) (hr:r1≠[]):Fs q (q::t) (ms++dZ).flatten (q::(u++(u1++[q]))) r1
inductive lL(q:Nat):List Nat→List Nat→List Nat→Prop where
 |ns (t u r:List Nat) (h:gb (aH q 34) t u r):lL q (q::t) (q::u) r
 |fl (t:List Nat) (ms:List (List Nat)) (u r u1 r1:List Nat) (h:Ns (aH q 34) t ms u r) (h1:mC (aH q 34) q r u1 r1):lL q (q::t) (q::(u++u1)) r1
noncomputable def tS(v:List Nat)(q:Nat)(s s' :Sc):V:=MI v [q] s.mark s'.mark
theorem Fs.text{q:Nat}{t v u t' :List Nat}(h:Fs q t v u t'):t=u++t' ∧t' ≠[]:=by
 induction h with
 |mk t ms u r dZ u1 r1 h h1 hr=>
  obtain⟨_,e,_⟩:=h1.DO
  exact⟨by rw[h.text.1,e,zx,aR,aR];rfl,hr⟩
theorem lL.text{q:Nat}{t u t' :List Nat}(h:lL q t u t'):t=u++t' ∧t' ≠[]:=by
 induction h with
 |ns t u r h=>exact⟨by rw[h.text.1];rfl,h.text.2⟩
 |fl t ms u r u1 r1 h h1=>exact⟨by rw[h.text.1,h1.text.1,zx,aR],h1.text.2⟩
theorem DP(q:Nat):aB [q] [34]=aH q 34:=by
 show(match aH q 34 with|true=>ae|false=>af)=_
 cases aH q 34<;>rfl
theorem tc:∀l:List (List Nat),gq (cn l)=ag l.flatten
 | []=>rfl
 |a::l=>fC rfl (fC (tc l) rfl)
section
variable{s s1 s2 s3:Sc}{q:Nat}{l:List V}
theorem Ue{l2:List V}{v:List Nat}(h0:s.at 0=ag q)(h1:s.fwd 1=ag s1){s4:Sc}(h2:Gives ia [.ak,.bool (aH q 34),s.mark] s1 (.ok (.lst l)) s2)(hl:aJ l.length aZ=ae)(h3:Gv (bo iZ (o5 s2 [q] (aH q 34) l s.mark q)) (.next,o5 s3 [q] (aH q 34) l2 s.mark q))(h4:s3.fwd 1=ag s4)(h5:gq l2=ag v)(h6:(short v&&short l2)=ae):Gives iX [.ak,.str [q]] s (.ok (tS v q s s4)) s4:=by
 have e:=DP q
 generalize aH q 34=d at*
 have hl:aJ (av cg+av l) aZ=ae:=by rw[pN,fY];exact hl
 cases d with
 |true=>exact Uh s [q] bA e h0 h1 h2 hl h3 h4 h5 h6 (Gv.leaf _)
 |false=>exact Ul s [q] bA e h0 h1 h2 hl h3 h4 h5 h6 (Gv.leaf _)
theorem Ut{e:V}{loc:FS}(h0:s.at 0=ag q)(h1:s.fwd 1=ag s1)(h2:Gives ia [.ak,.bool (aH q 34),s.mark] s1 (.ok (.lst l)) s2)(hl:aJ l.length aZ=ae)(h3:Gv (bo iZ (o5 s2 [q] (aH q 34) l s.mark q)) (.exc e,⟨loc,ak s3,af⟩)):Gives iX [.ak,.str [q]] s (.exc e) s3:=by
 have he:=DP q
 generalize aH q 34=d at*
 have hl:aJ (av cg+av l) aZ=ae:=by rw[pN,fY];exact hl
 cases d with
 |true=>exact Uj s [q] bA he h0 h1 h2 hl h3 (Gv.leaf _)
 |false=>exact Uo s [q] bA he h0 h1 h2 hl h3 (Gv.leaf _)
theorem Uk{e:V}(h0:s.at 0=ag q)(h1:s.fwd 1=ag s1)(h2:Gives ia [.ak,.bool (aH q 34),s.mark] s1 (.exc e) s2):Gives iX [.ak,.str [q]] s (.exc e) s2:=by
 have he:=DP q
 generalize aH q 34=d at*
 cases d with
 |true=>exact Ui s [q] bA he h0 h1 h2 (Gv.leaf _)
 |false=>exact Um s [q] bA he h0 h1 h2 (Gv.leaf _)
end
section
variable{s:Sc}{q:Nat}{t u t' :List Nat}
theorem Ud{v:List Nat}(F:Fs q t v u t')(H:s.aO t)(hl:t.length≤400000):Gives iX [.ak,.str [q]] s (.ok (tS v q s (aK u t' s))) (aK u t' s):=by
 induction F with
 |mk t ms u r dZ u1 r1 h h1 hr=>
  obtain⟨e1,e2⟩:=h.text
  obtain⟨f1,g1,_⟩:=h1.DO
  obtain⟨f2,f3⟩:=h.few.app f1
  have i6:u.length+u1.length≤400000:=aL (by rw[lE,tm e1,tm g1,←eL];exact zT (dh _ _)) hl
  have f2:=aL f2 i6
  have f3:=aL f3 i6
  have ht:t≠[]:=by rw[e1];exact kj h.ne
  obtain⟨a1,A1⟩:=Sc.aO.dz [q] H ht
  have A2:=A1.go e1 h.ne
  have A3:=A2.go g1 (λe=>nomatch e)
  obtain⟨a4,_⟩:=Sc.aO.dz [q] A3 hr
  have f4:ms.length≤400000:=aL (dh _ _) (by rw[←bE];exact f2)
  rw[show aK (q::(u++(u1++[q]))) r1 s=aK [q] r1 (aK u1 (q::r1) (aK u r (aK [q] t s)))by
   rw[←Ct e1 g1 (c:=[q]) (z:=r1) rfl,←vh (w:=[q]) (by rw[e1,g1,aR,aR];rfl)];rfl]
  exact Ue H.df a1 (Eo h A1 (aL f4 (by decide))) (cB (by rw[ig];exact aL f4 (by decide))) (Ti h1 A2 (by rw[ig,←bE];exact aL f2 (by decide))) a4 (by rw[←w'];exact tc _) (by
   rw[←w']
   unfold short
   rw[ig,cB (aL f2 (by decide)),cB (aL f3 (by decide))];rfl)
theorem KJ(s:Sc):dT s.mark=ae:=rfl
theorem Uc(F:lL q t u t')(H:s.aO t)(hl:t.length≤400000):∃e,jG s.mark (aK u t' s).mark e∧Gives iX [.ak,.str [q]] s (.exc e) (aK u t' s):=by
 induction F with
 |ns t u r h=>
  obtain⟨a1,A1⟩:=Sc.aO.dz [q] H (by rw[h.text.1];exact kj h.text.2)
  obtain⟨e,he,h9⟩:=La h (KJ s) A1 (aL (wt hl) (by decide))
  rw[show aK (q::u) r s=_ from vh (w:=[q]) h.text.1]
  exact⟨e,he,Uk H.df a1 h9⟩
 |fl t ms u r u1 r1 h h1=>
  obtain⟨e1,e2⟩:=h.text
  have e3:=h1.text.1
  obtain⟨f,_⟩:=h.few
  have ht:t≠[]:=by rw[e1];exact kj h.ne
  obtain⟨a1,A1⟩:=Sc.aO.dz [q] H ht
  have A2:=A1.go e1 h.ne
  have i6:=wt hl
  rw[tm e1]at i6
  have f4:=aL f (aL (dh _ _) i6)
  obtain⟨e,loc,he,h9⟩:=Th (y:=[q]) (l:=cn ms) h1 (KJ s) A2 (by rw[ig];exact aL (gw f _) (aL i6 (by decide)))
  rw[show aK (q::(u++u1)) r1 s=aK u1 r1 (aK u r (aK [q] t s))by
   rw[←vh e3,←vh (w:=[q]) (by rw[e1,e3,aR])];rfl]
  exact⟨e,he,Ut H.df a1 (Eo h A1 (aL f4 (by decide))) (cB (by rw[ig];exact aL f4 (by decide))) h9⟩
end
noncomputable def Sc.w(s:Sc)(d:Bool)(T:List V)(tk i:Int)(l:List V)(a:Bool)(K:List (Int×V)):Sc:={s with iu:=d,fB:=Z4 0,toks:=T,taken:=tk,ind:=i,i9:=l,allow:=a,keys:=K}
noncomputable def lj(x:aQ)(t r i l c m:V):V:=.obj x [(ai "token_number",t),(ai "required",r),(ai "index",i),(ai "line",l),(ai "column",c),(ai "mark",m)]
noncomputable def h_(t:Int)(r:Bool)(i l c:Int)(m:V):V:=lj 530 (.int t) (.bool r) (.int i) (.int l) (.int c) m
noncomputable def FK(s:Sc)(v m:FV):aq:=⟨[(b9,.v .ak),(ai "level",v),(ai "key",m)],ak s,af⟩
noncomputable def ey(c:aQ)(a b:V):V:=.obj c [(ai "start_mark",a),(ai "end_mark",b)]
noncomputable def fo(s:Sc)(v:FV):aq:=⟨[(b9,.v .ak),(ai "found",v)],ak s,af⟩
noncomputable def dP(s:Sc):aq:=⟨[(b9,.v .ak)],ak s,af⟩
noncomputable def uc(s:Sc)(v:FV):aq:=⟨[(b9,.v .ak),(ai "column",v)],ak s,af⟩
noncomputable def FU(s:Sc)(v m:FV):aq:=⟨[(b9,.v .ak),(ai "column",v),(ai "mark",m)],ak s,af⟩
noncomputable def jj(s:Sc)(v:FV):aq:=⟨[(b9,.v .ak),(fL,v)],ak s,af⟩
noncomputable def lU:aX:=GW (mS "fetch_more_tokens") yb [] 12
noncomputable def Il:List aG:=(aU (mS "fetch_more_tokens")).take 4
noncomputable def oY:List aG:=(aU (mS "fetch_more_tokens")).drop 4
theorem Q2(s:Sc)(k:Res→Self→au)(h1:(aI s.col 0)=af){r:R}(hk:Gv (k (.ok V.none) (ak s)) r):Gv (sj [.ak] [] (ak s) k) r:=by
 obtain⟨p,hk⟩:=hk
 exact Gv.of (af::p) (by kernel_rfl) (aj h1 hk)
theorem Q3(s:Sc)(k:Res→Self→au){r:R}:∀(h1:(aI s.col 0)=ae)⦃y2⦄(h3:(Sc.pre s 3)=ag y2)(h4:(aB y2 [45,45,45])=af)(hk:Gv (k (.ok V.none) (ak s)) r),Gv (sj [.ak] [] (ak s) k) r:=
 Gv.to (E:=λ_=>_∧op _ λ_=>_) (λp=>ae::af::af::p) (λ_=>by kernel_rfl) λg h1 y2 h3 h4 hk=>g hk λp hk=>(aj h1 (az h3 (aj h4 (aj tF hk))))
theorem Q0(s:Sc)(k:Res→Self→au){r:R}:∀⦃y1⦄(h2:(Sc.at s 1)=ag y1)(hk:Gv (k (.ok (V.bool (ax [0,32,9,13,10,133,8232,8233] y1))) (ak s)) r),Gv (uP [.ak] [] (ak s) k) r:=
 Gv.to (E:=λ_=>op _ λ_=>_) (λp=>p) (λ_=>by kernel_rfl) λg y1 h2 hk=>g hk λp hk=>(az h2 hk)
theorem abk(s:Sc)(d:Bool)(T:List V)(tk i:Int)(l:List V)(a:Bool)(k:Res→Self→au){r:R}(hk:Gv (k (.ok V.none) (ak (Sc.w s d T tk i l a []))) r):Gv (nP [.ak] [] (ak (s.w d T tk i l a [])) k) r:=by
 obtain⟨p,hk⟩:=hk
 exact Gv.of (af::p) (by kernel_rfl) (aj tF hk)
theorem abl(s:Sc)(d:Bool)(T:List V)(tk i:Int)(l:List V)(a:Bool)(t j ln c:Int)(m:V)(k:Res→Self→au){r:R}(hk:Gv (k (.ok V.none) (ak (Sc.w s d T tk i l a (mM (Z4 0) ((0,(lj 530 (V.int t) (V.bool af) (V.int j) (V.int ln) (V.int c) m))::[]))))) r):Gv (nP [.ak] [] (ak (s.w d T tk i l a [(0,h_ t af j ln c m)])) k) r:=by
 obtain⟨p,hk⟩:=hk
 exact Gv.of (ae::af::p) (by kernel_rfl) (aj tT (aj tF hk))
theorem PH(s:Sc)(d:Bool)(T:List V)(tk i:Int)(l:List V)(a:Bool)(K:List (Int×V))(c:Int)(k:Res→Self→au)(h1:(ltI i c)=ae)(h2:(aJ (av l) aZ)=ae){r:R}(hk:Gv (k (.ok (V.bool ae)) (ak (Sc.w s d T tk c (bp l [(V.int i)]) a K))) r):Gv (oG [.ak,.int c] [] (ak (s.w d T tk i l a K)) k) r:=by
 obtain⟨p,hk⟩:=hk
 exact Gv.of (ae::p) (by kernel_rfl) (aj h1 (aM h2 hk))
theorem PG(s:Sc)(d:Bool)(T:List V)(tk i:Int)(l:List V)(a:Bool)(K:List (Int×V))(c:Int)(k:Res→Self→au)(h1:(ltI i c)=af){r:R}(hk:Gv (k (.ok (V.bool af)) (ak (Sc.w s d T tk i l a K))) r):Gv (oG [.ak,.int c] [] (ak (s.w d T tk i l a K)) k) r:=by
 obtain⟨p,hk⟩:=hk
 exact Gv.of (af::p) (by kernel_rfl) (aj h1 hk)
theorem KU(s:Sc)(d:Bool)(T:List V)(tk i:Int)(l:List V)(a:Bool)(k:Res→Self→au){r:R}(hk:Gv (k (.ok V.none) (ak (Sc.w s d T tk i l a []))) r):Gv (tC [.ak] [] (ak (s.w d T tk i l a [])) k) r:=by
 obtain⟨p,hk⟩:=hk
 exact Gv.of (p) (by kernel_rfl) hk
theorem YV(s:Sc)(d:Bool)(T:List V)(tk i:Int)(l:List V)(a:Bool)(t j ln c:Int)(m:V)(k:Res→Self→au){r:R}(hk:Gv (k (.ok (V.int t)) (ak (Sc.w s d T tk i l a ((0,(lj 530 (V.int t) (V.bool af) (V.int j) (V.int ln) (V.int c) m))::[])))) r):Gv (tC [.ak] [] (ak (s.w d T tk i l a [(0,h_ t af j ln c m)])) k) r:=by
 obtain⟨p,hk⟩:=hk
 exact Gv.of (p) (by kernel_rfl) hk
theorem st(s:Sc)(k:Res→Self→au){r:R}:∀⦃a1⦄⦃s2⦄(h3:(Gv (tW (dP s) pk) (.next,⟨a1,(ak s2),af⟩)))(hk:Gv (k (.ok V.none) (ak s2)) r),Gv (mx [.ak] [] (ak s) k) r:=
 Gv.to (E:=λ_=>∃_,∃_,_) (λp=>p) (λ_=>by kernel_rfl) λg a1 s2 h3 hk=>g hk λp hk=>(aC a1 (aC s2 (aj h3 hk)))
theorem acy(s:Sc)(d:Bool)(T:List V)(tk i:Int)(l:List V)(a:Bool){r:R}:∀⦃a1⦄(h2:(Gv (dk (ft (GW stM eE [] 8) (eI jd) (bS jd)) [] (dP (Sc.w s d T tk i l a []))) a1))(hr:r=(a1.fst,a1.snd)),Gv (tW (dP (s.w d T tk i l a [])) pk) r:=
 Gv.at (E:=∃_,_) ([]) (by kernel_rfl) λg a1 h2 hr=>g (aC a1 (aj h2 hr))
theorem Fw(s:Sc)(d:Bool)(T:List V)(tk i:Int)(l:List V)(a:Bool)(t j ln c:Int)(m:V){r:R}:∀⦃a1⦄(h2:(Gv (dk (ft (GW stM eE [] 8) (eI jd) (bS jd)) [(V.int (Z4 0))] (dP (Sc.w s d T tk i l a ((0,(lj 530 (V.int t) (V.bool af) (V.int j) (V.int ln) (V.int c) m))::[])))) a1))(hr:r=(a1.fst,a1.snd)),Gv (tW (dP (s.w d T tk i l a [(0,h_ t af j ln c m)])) pk) r:=
 Gv.at (E:=∃_,_) ([]) (by kernel_rfl) λg a1 h2 hr=>g (aC a1 (aj h2 hr))
theorem acz(s:Sc)(d:Bool)(T:List V)(tk i:Int)(l:List V)(a:Bool)(t j ln c:Int)(m:V)(h1:(!aI ln s.cI)=ae){r:R}(hr:r=(.next,(FK (Sc.w s d T tk i l a (mM 0 ((0,(lj 530 (V.int t) (V.bool af) (V.int j) (V.int ln) (V.int c) m))::[]))) (.v (V.int 0)) (.v (lj 530 (V.int t) (V.bool af) (V.int j) (V.int ln) (V.int c) m))))):Gv (Fx (.int 0) (dP (s.w d T tk i l a [(0,h_ t af j ln c m)]))) r:=
 Gv.of (ae::ae::af::[]) (by kernel_rfl) (aj h1 (aj tT (aj tF hr)))
theorem acA(s:Sc)(d:Bool)(T:List V)(tk i:Int)(l:List V)(a:Bool)(t j ln c:Int)(m:V)(h1:(!aI ln s.cI)=af)(h2:(ltI 1024 (s.idx -j))=ae){r:R}(hr:r=(.next,(FK (Sc.w s d T tk i l a (mM 0 ((0,(lj 530 (V.int t) (V.bool af) (V.int j) (V.int ln) (V.int c) m))::[]))) (.v (V.int 0)) (.v (lj 530 (V.int t) (V.bool af) (V.int j) (V.int ln) (V.int c) m))))):Gv (Fx (.int 0) (dP (s.w d T tk i l a [(0,h_ t af j ln c m)]))) r:=
 Gv.of (af::ae::ae::af::[]) (by kernel_rfl) (aj h1 (aj h2 (aj tT (aj tF hr))))
theorem acB(s:Sc)(d:Bool)(T:List V)(tk i:Int)(l:List V)(a:Bool)(t j ln c:Int)(m:V)(h1:(!aI ln s.cI)=af)(h2:(ltI 1024 (s.idx -j))=af){r:R}(hr:r=(.next,(FK (Sc.w s d T tk i l a ((0,(lj 530 (V.int t) (V.bool af) (V.int j) (V.int ln) (V.int c) m))::[])) (.v (V.int 0)) (.v (lj 530 (V.int t) (V.bool af) (V.int j) (V.int ln) (V.int c) m))))):Gv (Fx (.int 0) (dP (s.w d T tk i l a [(0,h_ t af j ln c m)]))) r:=
 Gv.of (af::af::af::[]) (by kernel_rfl) (aj h1 (aj h2 (aj tF hr)))
theorem adX(s:Sc)(d:Bool)(T:List V)(tk i:Int)(a:Bool)(K:List (Int×V))(c:Int)(h1:(ltI c i)=ae)(h2:(aJ (av T) aZ)=ae){r:R}(hr:r=(.next,(FU (Sc.w s d (bp T [(ey 326 (Sc.mark s) (Sc.mark s))]) tk (-1) [] a K) (.v (V.int c)) (.v (Sc.mark s))))):Gv (p8 (uc (s.w d T tk i [.int (-1)] a K) (.v (.int c)))) r:=
 Gv.of (ae::[]) (by kernel_rfl) (aj h1 (aM h2 hr))
theorem adW(s:Sc)(d:Bool)(T:List V)(tk i:Int)(a:Bool)(K:List (Int×V))(c:Int)(h1:(ltI c i)=af){r:R}(hr:r=(.brk,(uc (Sc.w s d T tk i [(V.int (-1))] a K) (.v (V.int c))))):Gv (p8 (uc (s.w d T tk i [.int (-1)] a K) (.v (.int c)))) r:=
 Gv.of (af::[]) (by kernel_rfl) (aj h1 hr)
theorem adV(s:Sc)(d:Bool)(T:List V)(tk i:Int)(a:Bool)(K:List (Int×V))(c:Int)(h1:(ltI c i)=af){r:R}(hr:r=(.brk,(uc (Sc.w s d T tk i [] a K) (.v (V.int c))))):Gv (p8 (uc (s.w d T tk i [] a K) (.v (.int c)))) r:=
 Gv.of (af::[]) (by kernel_rfl) (aj h1 hr)
theorem adY(s:Sc)(d:Bool)(T:List V)(tk i:Int)(a:Bool)(K:List (Int×V))(c:Int)(m:FV)(h1:(ltI c i)=af){r:R}(hr:r=(.brk,(FU (Sc.w s d T tk i [] a K) (.v (V.int c)) m))):Gv (p8 (FU (s.w d T tk i [] a K) (.v (.int c)) m)) r:=
 Gv.of (af::[]) (by kernel_rfl) (aj h1 hr)
theorem uw(s:Sc)(d:Bool)(T:List V)(tk i:Int)(l:List V)(a:Bool)(K:List (Int×V))(c:Int)(k:Res→Self→au){r:R}:∀⦃a1⦄⦃s2⦄(h3:(Gv (bo p8 (uc (Sc.w s d T tk i l a K) (.v (V.int c)))) (.next,⟨a1,(ak s2),af⟩)))(hk:Gv (k (.ok V.none) (ak s2)) r),Gv (rW [.ak,.int c] [] (ak (s.w d T tk i l a K)) k) r:=
 Gv.to (E:=λ_=>_∧∃_,∃_,_) (λp=>af::p) (λ_=>by kernel_rfl) λg a1 s2 h3 hk=>g hk λp hk=>(aj tF (aC a1 (aC s2 (aj h3 hk))))
theorem acg(s:Sc)(v:FV){r:R}:∀⦃y1⦄(h2:(Sc.at s 0)=ag y1)(h3:(aB [y1] [32])=ae)⦃y4⦄(h5:(Sc.fwd (a9 1) s)=ag y4)(hr:r=(.next,(fo y4 v))),Gv (rM (fo s v)) r:=
 Gv.at (E:=op _ λ_=>_∧op _ λ_=>_) (ae::[]) (by kernel_rfl) λg y1 h2 h3 y4 h5 hr=>g (az h2 (aj h3 (az h5 hr)))
theorem acf(s:Sc)(v:FV){r:R}:∀⦃y1⦄(h2:(Sc.at s 0)=ag y1)(h3:(aB [y1] [32])=af)(hr:r=(.brk,(fo s v))),Gv (rM (fo s v)) r:=
 Gv.at (E:=op _ λ_=>_) (af::[]) (by kernel_rfl) λg y1 h2 h3 hr=>g (az h2 (aj h3 hr))
theorem acb(s:Sc){r:R}:∀⦃s2⦄(h3:(Gv (bo rM (fo s (.v (V.bool af)))) (.next,(fo s2 (.v (V.bool af))))))⦃y4⦄(h5:(Sc.at s2 0)=ag y4)(h6:(aB [y4] [35])=af)⦃a7⦄⦃s8⦄(h9:(Gives d8 [V.ak] s2 (.ok (V.str a7)) s8))(aY:(cY a7)=ae)(cq:(!!Decidable.decide (s8.fB=0))=ae)(hr:r=(.next,(fo {s8 with allow:=ae} (.v (V.bool af))))),Gv (kB (fo s (.v (.bool af)))) r:=
 Gv.at (E:=_∧dE (∃_,_∧op _ λ_=>_∧∃_,∃_,_)) (ae::af::ae::ae::[]) (by kernel_rfl) λg s2 h3 y4 h5 h6 a7 s8 h9 aY cq hr=>g (aj tT (dI (aC s2 (aj h3 (az h5 (aj h6 (aC a7 (aC s8 (aj h9 (aj aY (aj cq hr)))))))))))
theorem acd(s:Sc){r:R}:∀⦃s2⦄(h3:(Gv (bo rM (fo s (.v (V.bool af)))) (.next,(fo s2 (.v (V.bool af))))))⦃y4⦄(h5:(Sc.at s2 0)=ag y4)(h6:(aB [y4] [35])=af)⦃a7⦄⦃s8⦄(h9:(Gives d8 [V.ak] s2 (.ok (V.str a7)) s8))(aY:(cY a7)=af)(hr:r=(.next,(fo s8 (.v (V.bool ae))))),Gv (kB (fo s (.v (.bool af)))) r:=
 Gv.at (E:=_∧dE (∃_,_∧op _ λ_=>_∧∃_,∃_,_)) (ae::af::af::[]) (by kernel_rfl) λg s2 h3 y4 h5 h6 a7 s8 h9 aY hr=>g (aj tT (dI (aC s2 (aj h3 (az h5 (aj h6 (aC a7 (aC s8 (aj h9 (aj aY hr))))))))))
theorem ace(s:Sc){r:R}(hr:r=(.brk,(fo s (.v (V.bool ae))))):Gv (kB (fo s (.v (.bool ae)))) r:=
 Gv.of (af::[]) (by kernel_rfl) (aj tF hr)
theorem ack(s:Sc)(k:Res→Self→au){r:R}:∀(h1:(aI s.idx 0)=ae)⦃y2⦄(h3:(Sc.at s 0)=ag y2)(h4:(aB [y2] [65279])=ae)⦃y5⦄(h6:(Sc.fwd (a9 1) s)=ag y5)⦃a7⦄⦃s8⦄(h9:(Gv (bo kB (fo y5 (.v (V.bool af)))) (.next,⟨a7,(ak s8),af⟩)))(hk:Gv (k (.ok V.none) (ak s8)) r),Gv (fk [.ak] [] (ak s) k) r:=
 Gv.to (E:=λ_=>_∧op _ λ_=>_∧_∧op _ λ_=>∃_,∃_,_) (λp=>ae::ae::ae::p) (λ_=>by kernel_rfl) λg h1 y2 h3 h4 y5 h6 a7 s8 h9 hk=>g hk λp hk=>(aj h1 (az h3 (aj h4 (aj tT (az h6 (aC a7 (aC s8 (aj h9 hk))))))))
theorem acj(s:Sc)(k:Res→Self→au){r:R}:∀(h1:(aI s.idx 0)=ae)⦃y2⦄(h3:(Sc.at s 0)=ag y2)(h4:(aB [y2] [65279])=af)⦃a5⦄⦃s6⦄(h7:(Gv (bo kB (fo s (.v (V.bool af)))) (.next,⟨a5,(ak s6),af⟩)))(hk:Gv (k (.ok V.none) (ak s6)) r),Gv (fk [.ak] [] (ak s) k) r:=
 Gv.to (E:=λ_=>_∧op _ λ_=>_∧_∧∃_,∃_,_) (λp=>ae::af::af::p) (λ_=>by kernel_rfl) λg h1 y2 h3 h4 a5 s6 h7 hk=>g hk λp hk=>(aj h1 (az h3 (aj h4 (aj tF (aC a5 (aC s6 (aj h7 hk)))))))
theorem ach(s:Sc)(k:Res→Self→au){r:R}:∀(h1:(aI s.idx 0)=af)⦃a2⦄⦃s3⦄(h4:(Gv (bo kB (fo s (.v (V.bool af)))) (.next,⟨a2,(ak s3),af⟩)))(hk:Gv (k (.ok V.none) (ak s3)) r),Gv (fk [.ak] [] (ak s) k) r:=
 Gv.to (E:=λ_=>_∧_∧∃_,∃_,_) (λp=>af::af::p) (λ_=>by kernel_rfl) λg h1 a2 s3 h4 hk=>g hk λp hk=>(aj h1 (aj tF (aC a2 (aC s3 (aj h4 hk)))))
theorem sv(s:Sc)(d:Bool)(tk i:Int)(l:List V)(k:Res→Self→au){r:R}:∀⦃a1⦄(h2:(Gives nP [V.ak] (Sc.w s d cg tk i l ae []) (.ok V.none) (Sc.w s d cg tk i l ae a1)))(h3:(aJ (av a1) 1000)=ae)(hk:Gv (k (.ok V.none) (ak (Sc.w s d [] tk i l ae (pR (Z4 0) (lj 530 (V.int (tk+ ↑(av cg))) (V.bool (aI i s.col)) (V.int s.idx) (V.int s.cI) (V.int s.col) (Sc.mark s)) a1)))) r),Gv (tY [.ak] [] (ak (s.w d [] tk i l ae [])) k) r:=
 Gv.to (E:=λ_=>_∧_∧∃_,_) (λp=>af::ae::p) (λ_=>by kernel_rfl) λg a1 h2 h3 hk=>g hk λp hk=>(aj tF (aj tT (aC a1 (aj h2 (aM h3 hk)))))
theorem fe(s:Sc)(d:Bool)(T:List V)(tk i:Int)(l:List V)(a:Bool)(K:List (Int×V))(k:Res→Self→au){r:R}:∀⦃s2⦄(h3:(Gives rW [V.ak,(V.int (-1))] (Sc.w s d T tk i l a K) (.ok V.none) s2))⦃a4⦄(h5:(Gives nP [V.ak] s2 (.ok V.none) (Sc.mk s2.nm s2.sp s2.eo s2.buf s2.ptr s2.idx s2.cI s2.col s2.iu s2.fB s2.toks s2.taken s2.ind s2.i9 s2.allow a4)))(h6:(aJ (s2.toks.length) aZ)=ae)(hk:Gv (k (.ok V.none) (ak {s2 with iu:=ae,toks:=(bp s2.toks [(ey 290 (Sc.mark s2) (Sc.mark s2))]),allow:=af,keys:=[]})) r),Gv (uZ [.ak] [] (ak (s.w d T tk i l a K)) k) r:=
 Gv.to (E:=λ_=>dE (∃_,_∧∃_,_)) (λp=>p) (λ_=>by kernel_rfl) λg s2 h3 a4 h5 h6 hk=>g hk λp hk=>(dI (aC s2 (aj h3 (aC a4 (aj h5 (aM h6 hk))))))
theorem S5(s:Sc)(d:Bool)(T:List V)(tk i:Int)(l:List V)(K:List (Int×V))(k:Res→Self→au){r:R}:∀⦃a1⦄⦃s2⦄(h3:(Gives oG [V.ak,(V.int s.col)] (Sc.w s d T tk i l ae K) (.ok (V.bool a1)) s2))(h4:a1=ae)(h5:(aJ (s2.toks.length) aZ)=ae)⦃a6⦄(h7:(Gives nP [V.ak] (Sc.mk s2.nm s2.sp s2.eo s2.buf s2.ptr s2.idx s2.cI s2.col s2.iu s2.fB (bp s2.toks (V.obj 302 [(ck #[115,116,97,114,116,95,109,97,114,107],Sc.mark s2),(ck #[101,110,100,95,109,97,114,107],Sc.mark s2)]::cg)) s2.taken s2.ind s2.i9 ae s2.keys) (.ok V.none) (Sc.mk s2.nm s2.sp s2.eo s2.buf s2.ptr s2.idx s2.cI s2.col s2.iu s2.fB (bp s2.toks (V.obj 302 [(ck #[115,116,97,114,116,95,109,97,114,107],Sc.mark s2),(ck #[101,110,100,95,109,97,114,107],Sc.mark s2)]::cg)) s2.taken s2.ind s2.i9 ae a6)))⦃y8⦄(h9:(Sc.fwd (a9 1) (Sc.mk s2.nm s2.sp s2.eo s2.buf s2.ptr s2.idx s2.cI s2.col s2.iu s2.fB (bp s2.toks (V.obj 302 [(ck #[115,116,97,114,116,95,109,97,114,107],Sc.mark s2),(ck #[101,110,100,95,109,97,114,107],Sc.mark s2)]::cg)) s2.taken s2.ind s2.i9 ae a6))=ag y8)(aY:(aJ (y8.toks.length) aZ)=ae)(hk:Gv (k (.ok V.none) (ak {y8 with toks:=(bp y8.toks [(ey 410 (Sc.mark s2) (Sc.mark y8))])})) r),Gv (qC [.ak] [] (ak (s.w d T tk i l ae K)) k) r:=
 Gv.to (E:=λ_=>_∧_∧∃_,∃_,_∧_∧tp _ (∃_,_∧op _ λ_=>_)) (λp=>ae::af::ae::p) (λ_=>by kernel_rfl) λg a1 s2 h3 h4 h5 a6 h7 y8 h9 aY hk=>g hk λp hk=>(aj tT (aj tF (aC a1 (aC s2 (aj h3 (aj h4 (aM h5 (aC a6 (aj h7 (az h9 (aM aY hk)))))))))))
theorem S4(s:Sc)(d:Bool)(T:List V)(tk i:Int)(l:List V)(K:List (Int×V))(k:Res→Self→au){r:R}:∀⦃a1⦄⦃s2⦄(h3:(Gives oG [V.ak,(V.int s.col)] (Sc.w s d T tk i l ae K) (.ok (V.bool a1)) s2))(h4:a1=af)⦃a5⦄(h6:(Gives nP [V.ak] (Sc.mk s2.nm s2.sp s2.eo s2.buf s2.ptr s2.idx s2.cI s2.col s2.iu s2.fB s2.toks s2.taken s2.ind s2.i9 ae s2.keys) (.ok V.none) (Sc.mk s2.nm s2.sp s2.eo s2.buf s2.ptr s2.idx s2.cI s2.col s2.iu s2.fB s2.toks s2.taken s2.ind s2.i9 ae a5)))⦃y7⦄(h8:(Sc.fwd (a9 1) (Sc.mk s2.nm s2.sp s2.eo s2.buf s2.ptr s2.idx s2.cI s2.col s2.iu s2.fB s2.toks s2.taken s2.ind s2.i9 ae a5))=ag y7)(h9:(aJ (y7.toks.length) aZ)=ae)(hk:Gv (k (.ok V.none) (ak {y7 with toks:=(bp y7.toks [(ey 410 (Sc.mark s2) (Sc.mark y7))])})) r),Gv (qC [.ak] [] (ak (s.w d T tk i l ae K)) k) r:=
 Gv.to (E:=λ_=>_∧_∧∃_,∃_,_∧_∧∃_,_∧op _ λ_=>_) (λp=>ae::af::af::p) (λ_=>by kernel_rfl) λg a1 s2 h3 h4 a5 h6 y7 h8 h9 hk=>g hk λp hk=>(aj tT (aj tF (aC a1 (aC s2 (aj h3 (aj h4 (aC a5 (aj h6 (az h8 (aM h9 hk))))))))))
theorem KZ(s:Sc)(d:Bool)(T:List V)(tk i:Int)(l:List V)(a:Bool)(K:List (Int×V))(k:Res→Self→au)(h1:d=ae){r:R}(hk:Gv (k (.ok (V.bool af)) (ak (Sc.w s d T tk i l a K))) r):Gv (lz [.ak] [] (ak (s.w d T tk i l a K)) k) r:=by
 obtain⟨p,hk⟩:=hk
 exact Gv.of (ae::p) (by kernel_rfl) (aj h1 hk)
theorem KY(s:Sc)(d:Bool)(T:List V)(tk i:Int)(l:List V)(a:Bool)(K:List (Int×V))(k:Res→Self→au)(h1:d=af)(h2:(aJ (av T) aZ)=ae)(h3:(!cY T)=ae){r:R}(hk:Gv (k (.ok (V.bool ae)) (ak (Sc.w s d T tk i l a K))) r):Gv (lz [.ak] [] (ak (s.w d T tk i l a K)) k) r:=by
 obtain⟨p,hk⟩:=hk
 exact Gv.of (af::ae::p) (by kernel_rfl) (aj h1 (aM h2 (aj h3 hk)))
theorem KW(s:Sc)(d:Bool)(T:List V)(tk i:Int)(l:List V)(a:Bool)(K:List (Int×V))(k:Res→Self→au){r:R}:∀(h1:d=af)(h2:(aJ (av T) aZ)=ae)(h3:(!cY T)=af)⦃s5⦄(h6:(Gives mx [V.ak] (Sc.w s d T tk i l a K) (.ok V.none) s5))⦃s7⦄(h8:(Gives tC [V.ak] s5 (.ok V.none) s7))(hk:Gv (k (.ok V.none) (ak s7)) r),Gv (lz [.ak] [] (ak (s.w d T tk i l a K)) k) r:=
 Gv.to (E:=λ_=>_∧tp _ (_∧dE (∃_,_∧∃_,_))) (λp=>af::af::ae::af::p) (λ_=>by kernel_rfl) λg h1 h2 h3 s5 h6 s7 h8 hk=>g hk λp hk=>(aj h1 (aM h2 (aj h3 (dI (aC s5 (aj h6 (aC s7 (aj h8 (aj tF hk)))))))))
theorem YX(s:Sc)(d:Bool)(T:List V)(tk i:Int)(l:List V)(a:Bool)(K:List (Int×V))(k:Res→Self→au){r:R}:∀(h1:d=af)(h2:(aJ (av T) aZ)=ae)(h3:(!cY T)=af)⦃s5⦄(h6:(Gives mx [V.ak] (Sc.w s d T tk i l a K) (.ok V.none) s5))⦃i7⦄⦃s8⦄(h9:(Gives tC [V.ak] s5 (.ok (V.int i7)) s8))(aY:(aI i7 s8.taken)=ae)(hk:Gv (k (.ok (V.bool ae)) (ak s8)) r),Gv (lz [.ak] [] (ak (s.w d T tk i l a K)) k) r:=
 Gv.to (E:=λ_=>_∧tp _ (_∧dE (∃_,_∧∃_,∃_,_))) (λp=>af::af::af::ae::p) (λ_=>by kernel_rfl) λg h1 h2 h3 s5 h6 i7 s8 h9 aY hk=>g hk λp hk=>(aj h1 (aM h2 (aj h3 (dI (aC s5 (aj h6 (aC i7 (aC s8 (aj h9 (aj aY hk))))))))))
theorem Tg(s:Sc)(y:List Nat)(k:Res→Self→au){r:R}:∀⦃s2⦄(h3:(Gives tY [V.ak] s (.ok V.none) s2))⦃v4⦄⦃s5⦄(h6:(Gives iX [V.ak,(V.str y)] (Sc.mk s2.nm s2.sp s2.eo s2.buf s2.ptr s2.idx s2.cI s2.col s2.iu s2.fB s2.toks s2.taken s2.ind s2.i9 af s2.keys) (.ok v4) s5))(h7:(aJ (s5.toks.length) aZ)=ae)(hk:Gv (k (.ok V.none) (ak {s5 with toks:=(bp s5.toks [v4])})) r),Gv (kX [.ak] [(Nn,.str y)] (ak s) k) r:=
 Gv.to (E:=λ_=>dE (∃_,_∧∃_,∃_,_)) (λp=>ae::p) (λ_=>by kernel_rfl) λg s2 h3 v4 s5 h6 h7 hk=>g hk λp hk=>(dI (aC s2 (aj h3 (aC v4 (aC s5 (aj h6 (aM h7 hk)))))))
theorem Td(s:Sc)(y:List Nat)(k:Res→Self→au){r:R}:∀⦃s2⦄(h3:(Gives tY [V.ak] s (.ok V.none) s2))⦃v4⦄⦃s5⦄(h6:(Gives iX [V.ak,(V.str y)] (Sc.mk s2.nm s2.sp s2.eo s2.buf s2.ptr s2.idx s2.cI s2.col s2.iu s2.fB s2.toks s2.taken s2.ind s2.i9 af s2.keys) (.exc v4) s5))(hk:Gv (k (.exc v4) (ak s5)) r),Gv (kX [.ak] [(Nn,.str y)] (ak s) k) r:=
 Gv.to (E:=λ_=>dE (∃_,_∧∃_,∃_,_)) (λp=>af::p) (λ_=>by kernel_rfl) λg s2 h3 v4 s5 h6 hk=>g hk λp hk=>(dI (aC s2 (aj h3 (aC v4 (aC s5 (aj h6 hk))))))
theorem SV(s:Sc)(k:Res→Self→au){r:R}:∀⦃s1⦄(h2:(oo kX [V.ak] ([(ai "style",V.str [39])]) s (.ok V.none) s1))(hk:Gv (k (.ok V.none) (ak s1)) r),Gv (sD [.ak] [] (ak s) k) r:=
 Gv.to (E:=λ_=>∃_,_) (λp=>ae::p) (λ_=>by kernel_rfl) λg s1 h2 hk=>g hk λp hk=>(aC s1 (aj h2 hk))
theorem SS(s:Sc)(k:Res→Self→au){r:R}:∀⦃v1⦄⦃s2⦄(h3:(oo kX [V.ak] ([(ai "style",V.str [39])]) s (.exc v1) s2))(hk:Gv (k (.exc v1) (ak s2)) r),Gv (sD [.ak] [] (ak s) k) r:=
 Gv.to (E:=λ_=>∃_,∃_,_) (λp=>af::p) (λ_=>by kernel_rfl) λg v1 s2 h3 hk=>g hk λp hk=>(aC v1 (aC s2 (aj h3 hk)))
theorem S1(s:Sc)(k:Res→Self→au){r:R}:∀⦃s1⦄(h2:(oo kX [V.ak] ([(ai "style",V.str [34])]) s (.ok V.none) s1))(hk:Gv (k (.ok V.none) (ak s1)) r),Gv (sE [.ak] [] (ak s) k) r:=
 Gv.to (E:=λ_=>∃_,_) (λp=>ae::p) (λ_=>by kernel_rfl) λg s1 h2 hk=>g hk λp hk=>(aC s1 (aj h2 hk))
theorem SW(s:Sc)(k:Res→Self→au){r:R}:∀⦃v1⦄⦃s2⦄(h3:(oo kX [V.ak] ([(ai "style",V.str [34])]) s (.exc v1) s2))(hk:Gv (k (.exc v1) (ak s2)) r),Gv (sE [.ak] [] (ak s) k) r:=
 Gv.to (E:=λ_=>∃_,∃_,_) (λp=>af::p) (λ_=>by kernel_rfl) λg v1 s2 h3 hk=>g hk λp hk=>(aC v1 (aC s2 (aj h3 hk)))
theorem Tw(s:Sc)(k:Out→aq→au){r:R}:∀⦃s2⦄(h3:(Gives fk [V.ak] s (.ok V.none) s2))⦃s5⦄(h6:(Gives mx [V.ak] s2 (.ok V.none) s5))⦃s8⦄(h9:(Gives rW [V.ak,(V.int s5.col)] s5 (.ok V.none) s8))⦃dq⦄(cq:(Sc.at s8 0)=ag dq)(hk:Gv (k .next (jj s8 (.v (V.str ([dq]))))) r),Gv (aN lU 60 Il (dP s) k) r:=
 Gv.to (E:=λ_=>dE (∃_,_∧dE (∃_,_∧dE (∃_,_∧op _ λ_=>_)))) (λp=>p) (λ_=>by kernel_rfl) λg s2 h3 s5 h6 s8 h9 dq cq hk=>g hk λp hk=>(dI (aC s2 (aj h3 (dI (aC s5 (aj h6 (dI (aC s8 (aj h9 (az cq hk))))))))))
theorem Tp(s:Sc)(k:Out→aq→au){r:R}:∀⦃s2⦄(h3:(Gives uZ [V.ak] s (.ok V.none) s2))(hk:Gv (k (.ret V.none) (jj s2 (.v (V.str [0])))) r),Gv (aN lU 56 oY (jj s (.v (.str [0]))) k) r:=
 Gv.to (E:=λ_=>_∧dE (∃_,_)) (λp=>ae::p) (λ_=>by kernel_rfl) λg s2 h3 hk=>g hk λp hk=>(aj tT (dI (aC s2 (aj h3 hk))))
theorem Ik(s:Sc)(k:Out→aq→au){r:R}:∀⦃s2⦄(h3:(Gives sj [V.ak] s (.ok V.none) s2))⦃a4⦄⦃s5⦄(h6:(Gives uP [V.ak] s2 (.ok (V.bool a4)) s5))(h7:a4=ae)⦃s9⦄(aY:(Gives qC [V.ak] s5 (.ok V.none) s9))(hk:Gv (k (.ret V.none) (jj s9 (.v (V.str [45])))) r),Gv (aN lU 56 oY (jj s (.v (.str [45]))) k) r:=
 Gv.to (E:=λ_=>_∧_∧_∧_∧dE (∃_,_∧_∧_∧_∧_∧_∧_∧_∧_∧_∧_∧∃_,∃_,_∧_∧_∧dE (∃_,_))) (λp=>af::af::af::ae::af::af::af::af::af::af::af::af::af::ae::ae::ae::p) (λ_=>by kernel_rfl) λg s2 h3 a4 s5 h6 h7 s9 aY hk=>g hk λp hk=>(aj tF (aj tF (aj tF (aj tT (dI (aC s2 (aj h3 (aj tF (aj tF (aj tF (aj tF (aj tF (aj tF (aj tF (aj tF (aj tF (aj tT (aC a4 (aC s5 (aj h6 (aj h7 (aj tT (dI (aC s9 (aj aY hk)))))))))))))))))))))))))
theorem Tv(s:Sc)(k:Out→aq→au){r:R}:∀⦃s2⦄(h3:(Gives sD [V.ak] s (.ok V.none) s2))(hk:Gv (k (.ret V.none) (jj s2 (.v (V.str [39])))) r),Gv (aN lU 56 oY (jj s (.v (.str [39]))) k) r:=
 Gv.to (E:=λ_=>_∧_∧_∧_∧_∧_∧_∧_∧_∧_∧_∧_∧_∧_∧_∧_∧_∧_∧_∧_∧_∧_∧_∧_∧_∧_∧dE (∃_,_)) (λp=>af::af::af::af::af::af::af::af::af::af::af::af::af::af::af::af::af::af::af::af::af::af::af::af::af::ae::ae::p) (λ_=>by kernel_rfl) λg s2 h3 hk=>g hk λp hk=>(aj tF (aj tF (aj tF (aj tF (aj tF (aj tF (aj tF (aj tF (aj tF (aj tF (aj tF (aj tF (aj tF (aj tF (aj tF (aj tF (aj tF (aj tF (aj tF (aj tF (aj tF (aj tF (aj tF (aj tF (aj tF (aj tT (dI (aC s2 (aj h3 hk)))))))))))))))))))))))))))))
theorem Tu(s:Sc)(k:Out→aq→au){r:R}:∀⦃v1⦄⦃s2⦄(h3:(Gives sD [V.ak] s (.exc v1) s2))(hk:Gv (k (.exc v1) (jj s2 (.v (V.str [39])))) r),Gv (aN lU 56 oY (jj s (.v (.str [39]))) k) r:=
 Gv.to (E:=λ_=>_∧_∧_∧_∧_∧_∧_∧_∧_∧_∧_∧_∧_∧_∧_∧_∧_∧_∧_∧_∧_∧_∧_∧_∧_∧_∧∃_,∃_,_) (λp=>af::af::af::af::af::af::af::af::af::af::af::af::af::af::af::af::af::af::af::af::af::af::af::af::af::ae::af::p) (λ_=>by kernel_rfl) λg v1 s2 h3 hk=>g hk λp hk=>(aj tF (aj tF (aj tF (aj tF (aj tF (aj tF (aj tF (aj tF (aj tF (aj tF (aj tF (aj tF (aj tF (aj tF (aj tF (aj tF (aj tF (aj tF (aj tF (aj tF (aj tF (aj tF (aj tF (aj tF (aj tF (aj tT (aC v1 (aC s2 (aj h3 hk)))))))))))))))))))))))))))))
theorem Ts(s:Sc)(k:Out→aq→au){r:R}:∀⦃s2⦄(h3:(Gives sE [V.ak] s (.ok V.none) s2))(hk:Gv (k (.ret V.none) (jj s2 (.v (V.str [34])))) r),Gv (aN lU 56 oY (jj s (.v (.str [34]))) k) r:=
 Gv.to (E:=λ_=>_∧_∧_∧_∧_∧_∧_∧_∧_∧_∧_∧_∧_∧_∧_∧_∧_∧_∧_∧_∧_∧_∧_∧_∧_∧_∧_∧dE (∃_,_)) (λp=>af::af::af::af::af::af::af::af::af::af::af::af::af::af::af::af::af::af::af::af::af::af::af::af::af::af::ae::ae::p) (λ_=>by kernel_rfl) λg s2 h3 hk=>g hk λp hk=>(aj tF (aj tF (aj tF (aj tF (aj tF (aj tF (aj tF (aj tF (aj tF (aj tF (aj tF (aj tF (aj tF (aj tF (aj tF (aj tF (aj tF (aj tF (aj tF (aj tF (aj tF (aj tF (aj tF (aj tF (aj tF (aj tF (aj tT (dI (aC s2 (aj h3 hk))))))))))))))))))))))))))))))
theorem Tq(s:Sc)(k:Out→aq→au){r:R}:∀⦃v1⦄⦃s2⦄(h3:(Gives sE [V.ak] s (.exc v1) s2))(hk:Gv (k (.exc v1) (jj s2 (.v (V.str [34])))) r),Gv (aN lU 56 oY (jj s (.v (.str [34]))) k) r:=
 Gv.to (E:=λ_=>_∧_∧_∧_∧_∧_∧_∧_∧_∧_∧_∧_∧_∧_∧_∧_∧_∧_∧_∧_∧_∧_∧_∧_∧_∧_∧_∧∃_,∃_,_) (λp=>af::af::af::af::af::af::af::af::af::af::af::af::af::af::af::af::af::af::af::af::af::af::af::af::af::af::ae::af::p) (λ_=>by kernel_rfl) λg v1 s2 h3 hk=>g hk λp hk=>(aj tF (aj tF (aj tF (aj tF (aj tF (aj tF (aj tF (aj tF (aj tF (aj tF (aj tF (aj tF (aj tF (aj tF (aj tF (aj tF (aj tF (aj tF (aj tF (aj tF (aj tF (aj tF (aj tF (aj tF (aj tF (aj tF (aj tT (aC v1 (aC s2 (aj h3 hk))))))))))))))))))))))))))))))
theorem I4(s:Sc){r:R}:∀⦃s1⦄(h2:(Gives lz [V.ak] s (.ok V.none) s1))(hr:r=(.brk,(dP s1))),Gv (jK (dP s)) r:=
 Gv.at (E:=∃_,_) (ae::af::[]) (by kernel_rfl) λg s1 h2 hr=>g (aC s1 (aj h2 (aj tF hr)))
theorem I3(s:Sc){r:R}:∀⦃a1⦄⦃s2⦄(h3:(Gives lz [V.ak] s (.ok (V.bool a1)) s2))(h4:a1=ae)⦃s6⦄(h7:(Gives fM [V.ak] s2 (.ok V.none) s6))(hr:r=(.next,(dP s6))),Gv (jK (dP s)) r:=
 Gv.at (E:=∃_,∃_,_∧_∧dE (∃_,_)) (af::ae::ae::[]) (by kernel_rfl) λg a1 s2 h3 h4 s6 h7 hr=>g (aC a1 (aC s2 (aj h3 (aj h4 (dI (aC s6 (aj h7 hr)))))))
theorem U8(s:Sc){r:R}:∀⦃a1⦄⦃s2⦄(h3:(Gives lz [V.ak] s (.ok (V.bool a1)) s2))(h4:a1=ae)⦃v5⦄⦃s6⦄(h7:(Gives fM [V.ak] s2 (.exc v5) s6))(hr:r=((.exc v5),(dP s6))),Gv (jK (dP s)) r:=
 Gv.at (E:=∃_,∃_,_∧_∧∃_,∃_,_) (af::ae::af::[]) (by kernel_rfl) λg a1 s2 h3 h4 v5 s6 h7 hr=>g (aC a1 (aC s2 (aj h3 (aj h4 (aC v5 (aC s6 (aj h7 hr)))))))
theorem I2(s:Sc){r:R}:∀⦃a1⦄⦃s2⦄(h3:(Gives lz [V.ak] s (.ok (V.bool a1)) s2))(h4:a1=af)(hr:r=(.brk,(dP s2))),Gv (jK (dP s)) r:=
 Gv.at (E:=∃_,∃_,_) (af::af::[]) (by kernel_rfl) λg a1 s2 h3 h4 hr=>g (aC a1 (aC s2 (aj h3 (aj h4 hr))))
theorem Ve(s:Sc)(k:Res→Self→au){r:R}:∀⦃s2⦄(h3:(Gv (bo jK (dP s)) (.next,(dP s2))))(h4:(aJ (s2.toks.length) aZ)=ae)(h5:(cY s2.toks)=ae)⦃y6⦄(h8:(DT s2.toks LM.pop [(V.int 0)])=ag y6)(h9:y6.fst=ae)(hk:Gv (k (.ok (y6.snd.snd)) (ak {s2 with toks:=(y6.snd.fst),taken:=(s2.taken+1)})) r),Gv (fP [.ak] [] (ak s) k) r:=
 Gv.to (E:=λ_=>dE (∃_,_∧tp _ (_∧op _ λ_=>_))) (λp=>ae::ae::p) (λ_=>by kernel_rfl) λg s2 h3 h4 h5 y6 h8 h9 hk=>g hk λp hk=>(dI (aC s2 (aj h3 (aM h4 (aj h5 (az h8 (aM h9 hk)))))))
theorem Vd(s:Sc)(k:Res→Self→au){r:R}:∀⦃s2⦄(h3:(Gv (bo jK (dP s)) (.next,(dP s2))))(h4:(aJ (s2.toks.length) aZ)=ae)(h5:(cY s2.toks)=af)(hk:Gv (k (.ok V.none) (ak s2)) r),Gv (fP [.ak] [] (ak s) k) r:=
 Gv.to (E:=λ_=>dE (∃_,_)) (λp=>ae::af::p) (λ_=>by kernel_rfl) λg s2 h3 h4 h5 hk=>g hk λp hk=>(dI (aC s2 (aj h3 (aM h4 (aj h5 hk)))))
theorem U' (s:Sc)(k:Res→Self→au){r:R}:∀⦃v1⦄⦃a2⦄⦃s3⦄(h4:(Gv (bo jK (dP s)) ((.exc v1),⟨a2,(ak s3),af⟩)))(hk:Gv (k (.exc v1) (ak s3)) r),Gv (fP [.ak] [] (ak s) k) r:=
 Gv.to (E:=λ_=>∃_,∃_,∃_,_) (λp=>af::p) (λ_=>by kernel_rfl) λg v1 a2 s3 h4 hk=>g hk λp hk=>(aC v1 (aC a2 (aC s3 (aj h4 hk))))
section
variable{s:Sc}{d:Bool}{T:List V}{tk i:Int}{l:List V}{a:Bool}{K:List (Int×V)}
theorem jE{t:List Nat}(H:s.aO t):(s.w d T tk i l a K).aO t:=by
 obtain⟨u,b,p⟩:=H
 exact⟨u,b,p⟩
theorem U7(c:Nat)(t:List Nat)(s:Sc):fO c t (s.w d T tk i l a K)=(fO c t s).w d T tk i l a K:=by
 unfold fO
 cases mN c t with
 |true=>rfl
 |false=>
  show(s.w d T tk i l a K).over c=(s.over c).w d T tk i l a K
  unfold Sc.over
  cases aB [c] [65279]<;>rfl
theorem o8:∀(u t:List Nat)(s:Sc),aK u t (s.w d T tk i l a K)=(aK u t s).w d T tk i l a K
 | [],_,_=>rfl
 |c::u,t,s=>by
  show aK u t (fO c (u++t) (s.w d T tk i l a K))=(aK u t (fO c (u++t) s)).w d T tk i l a K
  rw[U7,o8 u t]
inductive Key:List (Int×V)→Prop
 |no:Key []
 |one (t i l c:Int) (m:V):Key [(0,h_ t af i l c m)]
theorem z9(hk:Key K):Gives nP [.ak] (s.w d T tk i l a K) (.ok .none) (s.w d T tk i l a []):=by
 cases hk with
 |no=>exact abk s d T tk i l a bA (Gv.leaf _)
 |one t j ln c m=>exact abl s d T tk i l a t j ln c m bA (Gv.leaf _)
inductive St(s:Sc)(d:Bool)(T:List V)(tk i:Int)(l:List V)(a:Bool)(K:List (Int×V)):Prop
 |gone (h:Gives mx [.ak] (s.w d T tk i l a K) (.ok .none) (s.w d T tk i l a []))
 |Ao (h:Gives mx [.ak] (s.w d T tk i l a K) (.ok .none) (s.w d T tk i l a K))
theorem Nb:Gives mx [.ak] (s.w d T tk i l a []) (.ok .none) (s.w d T tk i l a []):=st _ bA (acy s d T tk i l a lX rfl) (Gv.leaf _)
theorem Nc{t j ln c:Int}{m:V}:St s d T tk i l a [(0,h_ t af j ln c m)]:=by
 cases h1:aI ln s.cI with
 |false=>exact .gone (st _ bA (Fw s d T tk i l a t j ln c m (kg (acz s d T tk i l a t j ln c m (rn h1) rfl) lX) rfl) (Gv.leaf _))
 |true=>cases h2:ltI 1024 (s.idx -j)with
  |true=>exact .gone (st _ bA (Fw s d T tk i l a t j ln c m (kg (acA s d T tk i l a t j ln c m (me h1) h2 rfl) lX) rfl) (Gv.leaf _))
  |false=>exact .Ao (st _ bA (Fw s d T tk i l a t j ln c m (kg (acB s d T tk i l a t j ln c m (me h1) h2 rfl) lX) rfl) (Gv.leaf _))
theorem acD(hk:Key K):St s d T tk i l a K:=by
 cases hk with
 |no=>exact .Ao Nb
 |one t j ln c m=>exact Nc
inductive ug:Int→List V→Prop
 |no:ug (-1) []
 |one:ug 0 [.int (-1)]
theorem Ks{a b:Int}(h:b≤a):ltI a b=af:=decide_eq_false (Int.not_lt.mpr h)
theorem ad0(hb:ug i l){c:Int}(h:0≤c):Gives rW [.ak,.int c] (s.w d T tk i l a K) (.ok .none) (s.w d T tk i l a K):=by
 cases hb with
 |no=>exact uw s d T tk (-1) [] a K c bA (iG (adV s d T tk (-1) a K c (Ks (aeU (by decide) h)) rfl)) (Gv.leaf _)
 |one=>exact uw s d T tk 0 _ a K c bA (iG (adW s d T tk 0 a K c (Ks h) rfl)) (Gv.leaf _)
theorem adZ(hT:T.length≤1000000):Gives rW [.ak,.int (-1)] (s.w d T tk 0 [.int (-1)] a K) (.ok .none) (s.w d (T++[ey 326 s.mark s.mark]) tk (-1) [] a K):=
 uw s d T tk 0 _ a K (-1) bA (eZ (adX s d T tk 0 a K (-1) rfl (cB hT) rfl) (iG (adY s d _ tk (-1) a K (-1) _ rfl rfl))) (Gv.leaf _)
end
def uA(w:List Nat):Prop:=∀x∈w,aB [x] [32]=ae
theorem Fo{v:FV}:∀(w:List Nat){s:Sc}{c:Nat}{t:List Nat},s.aO (w++c::t)→uA w→aB [c] [32]=af→Gv (bo rM (fo s v)) (.next,fo (aK w (c::t) s) v)
 | [],s,c,t,H,_,hc=>iG (acf s v H.df hc rfl)
 |x::w,s,c,t,H,hw,hc=>eZ (acg s v H.df (hw x (.head _)) (Sc.aO.dz [x] H kM).1 rfl) (Fo w (Sc.aO.dz [x] H kM).2 (λx hx=>hw x (.tail _ hx)) hc)
inductive r0(c:Nat):Prop
 |mk (a:aB [c] [32]=af) (b:aB [c] [35]=af) (h:ax [13,10,133] c=af) (e:ax [8232,8233] c=af)
noncomputable def Fp:FV:=.v (.bool af)
theorem Fm{w:List Nat}{s:Sc}{c:Nat}{t:List Nat}(H:s.aO (w++c::t))(hw:uA w)(hc:r0 c):∃loc,Gv (bo kB (fo s Fp)) (.next,⟨loc,ak (aK w (c::t) s),af⟩):=by
 obtain⟨h1,h2,h3,h4⟩:=hc
 have A:=H.go rfl (λe=>nomatch e)
 exact⟨_,eZ (acd s (Fo w H hw h1) A.df h2 (ab5 A h3 h4) rfl rfl) (iG (ace _ rfl))⟩
theorem IZ:∀(u t:List Nat)(s:Sc),s.fB=Z4 0→(aK u t s).fB=Z4 0
 | [],t,s,h=>h
 |c::u,t,s,h=>IZ u t _ (by
  unfold fO
  cases mN c (u++t)with
  |true=>exact h
  |false=>
   show(s.over c).fB=_
   unfold Sc.over
   cases aB [c] [65279]<;>exact h)
inductive NZ(b m:List Nat)(c:Nat)(r:List Nat):Prop
 |mk (e:b=c::r) (n32:aB [c] [32]=af) (n35:aB [c] [35]=af) (ne:cY m=ae)
theorem cH.hd{b m t:List Nat}(h:cH b m t):∃c r,NZ b m c r:=by
 induction h<;>exact⟨_,_,rfl,rfl,rfl,rfl⟩
noncomputable def Sc.al(s:Sc):Sc:=⟨s.nm,s.sp,s.eo,s.buf,s.ptr,s.idx,s.cI,s.col,s.iu,s.fB,s.toks,s.taken,s.ind,s.i9,ae,s.keys⟩
theorem aca{b m:List Nat}{s:Sc}{c:Nat}{t:List Nat}(H:s.aO (b++c::t))(hb:cH b m (c::t))(hc:r0 c)(hf:s.fB=Z4 0):∃loc,Gv (bo kB (fo s Fp)) (.next,⟨loc,ak (aK b (c::t) s).al,af⟩):=by
 obtain⟨x,r,e,h1,h2,h3⟩:=hb.hd
 have A:=H.go rfl (λe=>nomatch e)
 have B:(aK b (c::t) s).al.aO (c::t):=by
  obtain⟨u,b,p⟩:=A
  exact⟨u,b,p⟩
 have H' :=H
 rw[e]at H'
 have sS:(!!decide ((aK b (c::t) s).fB=0))=ae:=by rw[IZ _ _ _ hf];rfl
 obtain⟨loc,h⟩:=Fm (w:=[]) B (λ_ h=>nomatch h) hc
 exact⟨loc,eZ (acb s (Fo [] H' (λ_ h=>nomatch h) h1) H'.df h2 (wM hb H (λe=>nomatch e)) h3 sS rfl) h⟩
inductive um(s:Sc):List Nat→Prop
 |sG (t:List Nat) (h:aI s.idx 0=af):um s t
 |sign (c:Nat) (t:List Nat) (h:aB [c] [65279]=af):um s (c::t)
theorem M3{s s' :Sc}{t:List Nat}{loc:FS}(h:Gv (bo kB (fo s Fp)) (.next,⟨loc,ak s',af⟩))(H:s.aO t)(h0:um s t):Gives fk [.ak] s (.ok .none) s' :=by
 cases q:aI s.idx 0 with
 |false=>exact ach s bA q h (Gv.leaf _)
 |true=>cases h0 with
  |sG t h=>rw[q]at h;exact nt h.symm
  |sign c t hc=>exact acj s bA q H.df hc h (Gv.leaf _)
section
variable{s:Sc}{d:Bool}{T:List V}{tk i:Int}{l:List V}{a:Bool}{K:List (Int×V)}{c:Nat}{t:List Nat}
theorem A_{w:List Nat}(H:s.aO (w++c::t))(hw:uA w)(hc:r0 c)(h0:um s (w++c::t)):Gives fk [.ak] (s.w d T tk i l a K) (.ok .none) ((aK w (c::t) s).w d T tk i l a K):=by
 obtain⟨loc,e⟩:=Fm (jE (d:=d) (T:=T) (tk:=tk) (i:=i) (l:=l) (a:=a) (K:=K) H) hw hc
 rw[o8]at e
 refine M3 e (jE H) ?_
 generalize w++c::t=t' at*
 cases h0 with
 |sG t h=>exact .sG _ h
 |sign c t h=>exact .sign c t h
theorem GO{b m:List Nat}(H:s.aO (b++c::t))(hb:cH b m (c::t))(hc:r0 c)(h0:aI s.idx 0=af):Gives fk [.ak] (s.w d T tk i l a K) (.ok .none) ((aK b (c::t) s).w d T tk i l ae K):=by
 obtain⟨loc,e⟩:=aca (jE (d:=d) (T:=T) (tk:=tk) (i:=i) (l:=l) (a:=a) (K:=K) H) hb hc rfl
 rw[o8]at e
 exact M3 e (jE H) (.sG _ h0)
theorem PM(H:s.aO (65279::c::t))(hc:r0 c)(h0:aI s.idx 0=ae):Gives fk [.ak] (s.w d T tk i l a K) (.ok .none) ((aK [65279] (c::t) s).w d T tk i l a K):=by
 have H' :=jE (d:=d) (T:=T) (tk:=tk) (i:=i) (l:=l) (a:=a) (K:=K) H
 obtain⟨f,A⟩:=Sc.aO.dz [65279] H' (λe=>nomatch e)
 obtain⟨loc,e⟩:=Fm (w:=[]) A (λ_ h=>nomatch h) hc
 rw[o8]at e f
 exact ack (s.w d T tk i l a K) bA h0 H'.df rfl f e (Gv.leaf _)
end
theorem Tx{s:Sc}{k:Res→Self→au}{r:R}(h:Gv (aN lU 60 (aU (mS "fetch_more_tokens")) (dP s) (mP k)) r):Gv (fM [.ak] [] (ak s) k) r:=by
 obtain⟨p,h⟩:=h
 exact Gv.of p (E:=aN lU 60 (aU (mS "fetch_more_tokens")) (dP s) (mP k) p r) (by kernel_rfl) h
theorem G8{T:List V}{x:V}(h:T.length≤1000):(T++[x]).length≤1001:=by rw[bE];exact gw h 1
section
variable{s:Sc}{d:Bool}{T:List V}{tk i:Int}{l:List V}{a:Bool}{K:List (Int×V)}{c:Nat}{t:List Nat}
theorem Hl(H:s.aO t)(h:aB (t.take 3) [45,45,45]=af):Gives sj [.ak] s (.ok .none) s:=by
 cases q:aI s.col 0 with
 |false=>exact Q2 s bA q (Gv.leaf _)
 |true=>exact Q3 s bA q (H.pre 3) h (Gv.leaf _)
theorem Hk{e:Nat}(H:s.aO (c::e::t))(h:mQ.contains e=ae):Gives uP [.ak] s (.ok (.bool ae)) s:=by
 have:=Q0 s bA H.Be (Gv.leaf _)
 rw[show ax [0,32,9,13,10,133,8232,8233] e=ae from h]at this
 exact this
theorem S7(hT:T.length≤1000)(hk:Key K)(H:s.aO (45::t))(ht:t≠[])(hc:s.col=0):Gives qC [.ak] (s.w d T tk (-1) [] ae K) (.ok .none) ((aK [45] t s).w d (T++[ey 302 s.mark s.mark]++[ey 410 s.mark (aK [45] t s).mark]) tk 0 [.int (-1)] ae []):=by
 have e1:Gives oG [.ak,.int s.col] (s.w d T tk (-1) [] ae K) (.ok (.bool ae)) (s.w d T tk 0 [.int (-1)] ae K):=by
  rw[hc];exact PH s d T tk (-1) [] ae K 0 bA rfl rfl (Gv.leaf _)
 have e2:=z9 (s:=s) (d:=d) (tk:=tk) (i:=0) (l:=[.int (-1)]) (a:=ae) (T:=T++[ey 302 s.mark s.mark]) hk
 have e3:=(Sc.aO.dz [45] (jE (d:=d) (T:=T++[ey 302 s.mark s.mark]) (tk:=tk) (i:=0) (l:=[.int (-1)]) (a:=ae) (K:=[]) H) ht).1
 rw[o8]at e3
 exact S5 s d T tk (-1) [] K bA e1 rfl (cB (aL hT (by decide))) e2 e3 (cB (aL (G8 hT) (by decide))) (Gv.leaf _)
theorem S8(hT:T.length≤1000)(hk:Key K)(H:s.aO (45::t))(ht:t≠[])(hc:s.col=0):Gives qC [.ak] (s.w d T tk 0 [.int (-1)] ae K) (.ok .none) ((aK [45] t s).w d (T++[ey 410 s.mark (aK [45] t s).mark]) tk 0 [.int (-1)] ae []):=by
 have e1:Gives oG [.ak,.int s.col] (s.w d T tk 0 [.int (-1)] ae K) (.ok (.bool af)) (s.w d T tk 0 [.int (-1)] ae K):=by
  rw[hc];exact PG s d T tk 0 [.int (-1)] ae K 0 bA rfl (Gv.leaf _)
 have e2:=z9 (s:=s) (d:=d) (tk:=tk) (i:=0) (l:=[.int (-1)]) (a:=ae) (T:=T) hk
 have e3:=(Sc.aO.dz [45] (jE (d:=d) (T:=T) (tk:=tk) (i:=0) (l:=[.int (-1)]) (a:=ae) (K:=[]) H) ht).1
 rw[o8]at e3
 exact S4 s d T tk 0 [.int (-1)] K bA e1 rfl e2 e3 (cB (aL hT (by decide))) (Gv.leaf _)
theorem S_(hT:T.length≤1000)(hk:Key K):Gives uZ [.ak] (s.w d T tk 0 [.int (-1)] a K) (.ok .none) (s.w ae (T++[ey 326 s.mark s.mark]++[ey 290 s.mark s.mark]) tk (-1) [] af []):=
 fe s d T tk 0 [.int (-1)] a K bA (adZ (aL hT (by decide))) (z9 hk) (cB (aL (G8 hT) (by decide))) (Gv.leaf _)
theorem Nr(hc:aI i s.col=af):Gives tY [.ak] (s.w d [] tk i l ae []) (.ok .none) (s.w d [] tk i l ae [(0,h_ tk af s.idx s.cI s.col s.mark)]):=by
 have:=sv s d tk i l bA (z9 .no) rfl (Gv.leaf _)
 rw[hc,show tk+((av cg:Nat):Int)=tk from aeT tk]at this
 exact this
noncomputable def Nm(q:Nat):List (Str×V):=[(ai "style",.str [q])]
theorem Te{q:Nat}{v u t' :List Nat}(F:Fs q t v u t')(H:s.aO t)(hl:t.length≤400000)(hc:aI i s.col=af):oo kX [.ak] (Nm q) (s.w d [] tk i l ae []) (.ok .none) ((aK u t' s).w d [tS v q s (aK u t' s)] tk i l af [(0,h_ tk af s.idx s.cI s.col s.mark)]):=by
 have f:=Ud F (jE (d:=d) (T:=[]) (tk:=tk) (i:=i) (l:=l) (a:=af) (K:=[(0,h_ tk af s.idx s.cI s.col s.mark)]) H) hl
 rw[o8]at f
 exact Tg (s.w d [] tk i l ae []) [q] bA (Nr hc) f rfl (Gv.leaf _)
theorem Tc{q:Nat}{u t' :List Nat}(F:lL q t u t')(H:s.aO t)(hl:t.length≤400000)(hc:aI i s.col=af):∃e s',jG s.mark (aK u t' s).mark e∧oo kX [.ak] (Nm q) (s.w d [] tk i l ae []) (.exc e) s' :=by
 obtain⟨e,he,f⟩:=Uc F (jE (d:=d) (T:=[]) (tk:=tk) (i:=i) (l:=l) (a:=af) (K:=[(0,h_ tk af s.idx s.cI s.col s.mark)]) H) hl
 rw[o8]at f he
 exact⟨e,_,he,Td (s.w d [] tk i l ae []) [q] bA (Nr hc) f (Gv.leaf _)⟩
inductive Arr(s0 s:Sc)(d:Bool)(T:List V)(tk i:Int)(l:List V)(a:Bool)(K:List (Int×V))(c:Nat):Prop
 |mk (K' :List (Int×V)) (hk:Key K') (h0:K=[]→K' =[]) (h:∀k r,Gv (aN lU 56 oY (jj (s.w d T tk i l a K') (.v (.str [c]))) (mP k)) r→Gv (fM [.ak] [] (ak s0) k) r)
theorem Im{s0:Sc}{K' :List (Int×V)}(hs:Gives fk [.ak] s0 (.ok .none) (s.w d T tk i l a K))(h:Gives mx [.ak] (s.w d T tk i l a K) (.ok .none) (s.w d T tk i l a K'))(hb:ug i l)(hk:Key K')(h0:K=[]→K' =[])(gO:0≤s.col)(H:s.aO (c::t)):Arr s0 s d T tk i l a K c:=
 .mk K' hk h0 λk r hr=>Tx (jn (a:=Il) (b:=oY) (n:=55) (by kernel_rfl) (by kernel_rfl) (Tw s0 _ hs h (ad0 hb gO) (jE H).df hr))
theorem u6{s0:Sc}(hs:Gives fk [.ak] s0 (.ok .none) (s.w d T tk i l a K))(hb:ug i l)(hk:Key K)(gO:0≤s.col)(H:s.aO (c::t)):Arr s0 s d T tk i l a K c:=by
 cases acD (s:=s) (d:=d) (T:=T) (tk:=tk) (i:=i) (l:=l) (a:=a) hk with
 |gone h=>exact Im hs h hb .no (λ_=>rfl) gO H
 |Ao h=>exact Im hs h hb hk id gO H
theorem TA{s0:Sc}{e:Nat}(hT:T.length≤1000)(hs:Gives fk [.ak] s0 (.ok .none) (s.w d T tk (-1) [] ae K))(hk:Key K)(gO:s.col=0)(H:s.aO (45::e::t))(he:mQ.contains e=ae)(h3:aB ((45::e::t).take 3) [45,45,45]=af):
 Gives fM [.ak] s0 (.ok .none) ((aK [45] (e::t) s).w d (T++[ey 302 s.mark s.mark]++[ey 410 s.mark (aK [45] (e::t) s).mark]) tk 0 [.int (-1)] ae []):=by
 obtain⟨K',mY,_,q⟩:=u6 hs .no hk (by rw[gO];decide) H
 exact q _ _ (Ik _ _ (Hl (jE H) h3) (Hk (jE H) he) rfl (S7 hT mY H (λe=>nomatch e) gO) (Gv.leaf _))
theorem TB{s0:Sc}{e:Nat}(hT:T.length≤1000)(hs:Gives fk [.ak] s0 (.ok .none) (s.w d T tk 0 [.int (-1)] ae K))(hk:Key K)(gO:s.col=0)(H:s.aO (45::e::t))(he:mQ.contains e=ae)(h3:aB ((45::e::t).take 3) [45,45,45]=af):
 Gives fM [.ak] s0 (.ok .none) ((aK [45] (e::t) s).w d (T++[ey 410 s.mark (aK [45] (e::t) s).mark]) tk 0 [.int (-1)] ae []):=by
 obtain⟨K',mY,_,q⟩:=u6 hs .one hk (by rw[gO];decide) H
 exact q _ _ (Ik _ _ (Hl (jE H) h3) (Hk (jE H) he) rfl (S8 hT mY H (λe=>nomatch e) gO) (Gv.leaf _))
theorem Tz{s0:Sc}(hT:T.length≤1000)(hs:Gives fk [.ak] s0 (.ok .none) (s.w d T tk 0 [.int (-1)] a K))(hk:Key K)(gO:0≤s.col)(H:s.aO (0::t)):
 Gives fM [.ak] s0 (.ok .none) (s.w ae (T++[ey 326 s.mark s.mark]++[ey 290 s.mark s.mark]) tk (-1) [] af []):=by
 obtain⟨K',mY,_,q⟩:=u6 hs .one hk gO H
 exact q _ _ (Tp _ _ (S_ hT mY) (Gv.leaf _))
end
inductive ur:Nat→Prop
 |two:ur 34
 |one:ur 39
theorem Fs.hd{q:Nat}{t v u t' :List Nat}(F:Fs q t v u t'):∃t0,t=q::t0:=by
 induction F with
 |mk t=>exact⟨_,rfl⟩
theorem lL.hd{q:Nat}{t u t' :List Nat}(F:lL q t u t'):∃t0,t=q::t0:=by
 induction F with
 |ns t=>exact⟨_,rfl⟩
 |fl t=>exact⟨_,rfl⟩
theorem HM{c:Int}(h:1≤c):aI 0 c=af:=decide_eq_false (λe=>absurd h (e▸by decide))
section
variable{s s0:Sc}{tk:Int}{q:Nat}{t v u t' :List Nat}
theorem TF(hs:Gives fk [.ak] s0 (.ok .none) (s.w af [] tk 0 [.int (-1)] ae []))(gO:1≤s.col)(hq:ur q)(F:Fs q t v u t')(H:s.aO t)(hl:t.length≤400000):
 Gives fM [.ak] s0 (.ok .none) ((aK u t' s).w af [tS v q s (aK u t' s)] tk 0 [.int (-1)] af [(0,h_ tk af s.idx s.cI s.col s.mark)]):=by
 obtain⟨t0,e0⟩:=F.hd
 obtain⟨K',_,mY,p⟩:=u6 hs .one .no (aeU (by decide) gO) (e0▸H)
 rw[mY rfl]at p
 have e:=Te F H hl (d:=af) (tk:=tk) (l:=[.int (-1)]) (HM gO)
 cases hq with
 |two=>exact p _ _ (Ts _ _ (S1 _ bA e (Gv.leaf _)) (Gv.leaf _))
 |one=>exact p _ _ (Tv _ _ (SV _ bA e (Gv.leaf _)) (Gv.leaf _))
theorem TG(hs:Gives fk [.ak] s0 (.ok .none) (s.w af [] tk 0 [.int (-1)] ae []))(gO:1≤s.col)(hq:ur q)(F:lL q t u t')(H:s.aO t)(hl:t.length≤400000):
 ∃e s',jG s.mark (aK u t' s).mark e∧Gives fM [.ak] s0 (.exc e) s' :=by
 obtain⟨t0,e0⟩:=F.hd
 obtain⟨K',_,mY,p⟩:=u6 hs .one .no (aeU (by decide) gO) (e0▸H)
 rw[mY rfl]at p
 obtain⟨e,s',he,f⟩:=Tc F H hl (d:=af) (tk:=tk) (l:=[.int (-1)]) (HM gO)
 refine⟨e,s',he,?_⟩
 cases hq with
 |two=>exact p _ _ (Tq _ _ (SW _ bA f (Gv.leaf _)) (Gv.leaf _))
 |one=>exact p _ _ (Tu _ _ (SS _ bA f (Gv.leaf _)) (Gv.leaf _))
end
section
variable{s s1 s2:Sc}{d:Bool}{T:List V}{tk i:Int}{l:List V}{a:Bool}{K:List (Int×V)}{x:V}
theorem YZ(hT:T.length≤1000):Gives lz [.ak] (s.w af (x::T) tk i l a []) (.ok .none) (s.w af (x::T) tk i l a []):=
 KW s af (x::T) tk i l a [] bA rfl (cB (aL (jy hT) (by decide))) rfl Nb (KU s af (x::T) tk i l a bA (Gv.leaf _)) (Gv.leaf _)
theorem Cv(hT:T.length≤1000):Gv (bo jK (dP (s.w d (x::T) tk i l a []))) (.next,dP (s.w d (x::T) tk i l a [])):=by
 cases d with
 |true=>exact iG (I2 _ (KZ s ae _ tk i l a [] bA rfl (Gv.leaf _)) rfl rfl)
 |false=>exact iG (I4 _ (YZ hT) rfl)
theorem Cu(h:Gives fM [.ak] (s.w af [] tk i l a []) (.ok .none) s1):Gv (jK (dP (s.w af [] tk i l a []))) (.next,dP s1):=I3 _ (KY s af [] tk i l a [] bA rfl rfl rfl (Gv.leaf _)) rfl h rfl
theorem yn(hT:T.length≤1000)(h:Gv (bo jK (dP s)) (.next,dP (s1.w d (x::T) tk i l a K))):Gives fP [.ak] s (.ok x) (s1.w d T (tk+1) i l a K):=
 Ve s bA h (cB (aL (jy hT) (by decide))) rfl rfl (cB (aL (jy hT) (by decide))) (Gv.leaf _)
theorem I6(hT:T.length≤1000):Gives fP [.ak] (s.w d (x::T) tk i l a []) (.ok x) (s.w d T (tk+1) i l a []):=yn hT (Cv hT)
theorem U9:Gives fP [.ak] (s.w ae [] tk i l a []) (.ok .none) (s.w ae [] tk i l a []):=
 Vd _ bA (iG (I2 _ (KZ s ae [] tk i l a [] bA rfl (Gv.leaf _)) rfl rfl)) rfl rfl (Gv.leaf _)
variable{ND i' :Int}{l' :List V}{a' :Bool}
theorem I5(hT:T.length≤1000)(h:Gives fM [.ak] (s.w af [] tk i l a []) (.ok .none) (s1.w d (x::T) ND i' l' a' [])):Gives fP [.ak] (s.w af [] tk i l a []) (.ok x) (s1.w d T (ND+1) i' l' a' []):=yn hT (eZ (Cu h) (Cv hT))
theorem U_{e:V}(h:Gives fM [.ak] (s.w af [] tk i l a []) (.exc e) s1):Gives fP [.ak] (s.w af [] tk i l a []) (.exc e) s1:=
 U' _ bA (q9 (U8 _ (KY s af [] tk i l a [] bA rfl rfl rfl (Gv.leaf _)) rfl h rfl)) (Gv.leaf _)
theorem Vc{j ln c:Int}{m:V}{i2:Int}{l2:List V}{a2:Bool}(hT:T.length≤1000)(h:Gives fM [.ak] (s.w af [] tk i l a []) (.ok .none) (s1.w af [x] tk i' l' a' [(0,h_ tk af j ln c m)]))(h2:Gives fM [.ak] (s1.w af [x] tk i' l' a' [(0,h_ tk af j ln c m)]) (.ok .none) (s2.w d (x::T) tk i2 l2 a2 [])):
 Gives fP [.ak] (s.w af [] tk i l a []) (.ok x) (s1.w af [] (tk+1) i' l' a' [])∨Gives fP [.ak] (s.w af [] tk i l a []) (.ok x) (s2.w d T (tk+1) i2 l2 a2 []):=by
 cases Nc (s:=s1) (d:=af) (T:=[x]) (tk:=tk) (i:=i') (l:=l') (a:=a') (t:=tk) (j:=j) (ln:=ln) (c:=c) (m:=m)with
 |gone g=>exact .inl (yn (gx _) (eZ (Cu h) (iG (I4 _ (KW s1 af [x] tk i' l' a' _ bA rfl rfl rfl g (KU s1 af [x] tk i' l' a' bA (Gv.leaf _)) (Gv.leaf _)) rfl))))
 |Ao g=>exact .inr (yn hT (eZ (Cu h) (eZ (I3 _ (YX s1 af [x] tk i' l' a' _ bA rfl rfl rfl g (YV s1 af [x] tk i' l' a' tk j ln c m bA (Gv.leaf _)) (oQ.mpr rfl) (Gv.leaf _)) rfl h2 rfl) (Cv hT))))
end
noncomputable def NW:List (List Nat):=[[97],[98,99],[45,45,45],[46,46,46],[233],[128512],[65279],[35,58]]
noncomputable def oK:List (List Nat):=[[32],[32,32],[9]]
noncomputable def iz:List (List Nat×List Nat×Nat):=[([10],[10],0),([13,10,32,32],[10],2),([13,32],[10],1),([133],[10],0),([8232],[8232],0),([8233,9],[8233],1),([13,10],[10],0)]
noncomputable def lT:List (List Nat×List Nat):=[([92,48],[0]),([92,97],[7]),([92,98],[8]),([92,116],[9]),([92,9],[9]),([92,110],[10]),([92,118],[11]),([92,102],[12]),([92,114],[13]),([92,101],[27]),([92,32],[32]),([92,34],[34]),([92,92],[92]),([92,47],[47]),([92,78],[133]),([92,95],[160]),([92,76],[8232]),([92,80],[8233]),([92,120,52,97],[74]),([92,117,50,54,51,65],[9786]),([92,85,48,48,48,49,102,54,48,65],[128522]),([92,120,55,69],[126]),([92,120,99,69],[206]),([92,117,53,98,67,100],[23501]),([92,117,57,56,102,70],[39167]),([92,85,48,48,48,49,68,52,66,101],[119998])]
noncomputable def pW:List (List Nat×List Nat):=[([39,39],[39]),([92],[92]),([34],[34]),([92,110],[92,110])]
noncomputable def mU:List (List Nat×Nat):=[([92,113],1),([92,39],1),([92,88,52,49],1),([92,49],1),([92,120,52,103],2),([92,117,48,48,101,33],2),([92,85,48,48,48,49,70,54,48,32],2)]
noncomputable def pF:List (List Nat):=[[10,45,45,45,32],[8232,46,46,46,10]]
noncomputable def sf:List (List Nat):=[[10],[13,10],[133],[8232],[13]]
noncomputable def t_(e:List Nat×List Nat):V:=.tup [.str e.1,.str e.2]
noncomputable def BM(e:List Nat×List Nat×Nat):V:=.tup [.str e.1,.str e.2.1,.int (e.2.2:Nat)]
noncomputable def BY(e:List Nat×Nat):V:=.tup [.str e.1,.int (e.2:Nat)]
def con(l:List V):Fn:=λargs aE self k=>Tt (isNil args&&isNil aE) (k (.ok (.lst l)) self)
def Hu(m:String):Fn:=dO (GW (cS m) [] [] 2) (aU (cS m)) (bN [])
def Rf(m:String)(l:List V):Prop:=∀self,Hu m [] [] self bA=leaf (ky (.ok (.lst l)) self)
theorem oM{W:Wd}(hK:W.K=K W.w.params){a:aQ}{m:String}{l:List V}(D:b4 W a (aU (cS m)) (bP (cS m)) (bN []))(h:cC (aU (cS m))=[])(e:Rf m l):bH W (FX W) 3 ae a (con l):=(fN hK cK.nil D (by decide) h).by λargs aE self k r g=>bF g λhn g=>by
 obtain⟨h1,h2⟩:=aF hn
 refine⟨_,_,?_,g⟩
 rw[c_ h1,c_ h2]
 show Gv (Hu m [] [] self bA) _
 rw[e self];exact Gv.leaf _
noncomputable def kR:List V:=oK.map .str
noncomputable def kS:List V:=iz.map BM
noncomputable def uX:List V:=lT.map t_
noncomputable def wL:List V:=pW.map t_
noncomputable def uY:List V:=mU.map BY
noncomputable def rK:List V:=pF.map .str
noncomputable def jH:List V:=sf.map .str
noncomputable def g_:List (aQ×Fn):=[(1058,con (kR)),(1065,con (kS)),(1072,con (uX)),(1079,con (wL)),(1086,con (uY)),(1093,con (rK)),(1100,con (jH))]
theorem TQ{W:Wd}(hK:W.K=K W.w.params):cK W 3 g_:=(((((((cK.nil.cons (cE hK (by kernel_rfl)) (oM (l:=jH) hK (m:="_law_BETWEEN") (Gi hK) (by kernel_rfl) λ_=>by kernel_rfl) (by decide)).cons (cE hK (by kernel_rfl)) (oM (l:=rK) hK (m:="_law_MARKS") (Og hK) (by kernel_rfl) λ_=>by kernel_rfl) (by decide)).cons (cE hK (by kernel_rfl)) (oM (l:=uY) hK (m:="_law_FAULTS") (Od hK) (by kernel_rfl) λ_=>by kernel_rfl) (by decide)).cons (cE hK (by kernel_rfl)) (oM (l:=wL) hK (m:="_law_SINGLE") (Oc hK) (by kernel_rfl) λ_=>by kernel_rfl) (by decide)).cons (cE hK (by kernel_rfl)) (oM (l:=uX) hK (m:="_law_ESCAPES") (Oa hK) (by kernel_rfl) λ_=>by kernel_rfl) (by decide)).cons (cE hK (by kernel_rfl)) (oM (l:=kS) hK (m:="_law_ENDS") (N_ hK) (by kernel_rfl) λ_=>by kernel_rfl) (by decide)).cons (cE hK (by kernel_rfl)) (oM (l:=kR) hK (m:="_law_BLANKS") (N9 hK) (by kernel_rfl) λ_=>by kernel_rfl) (by decide))
noncomputable def ie:aG:=cS "_law_piece"
def fF:Fn:=dO (GW ie g_ [] 3) (aU ie) (bN [ai "n",ai "double"])
noncomputable def IA:aG:=cS "_law_fold"
def ye:Fn:=dO (GW IA [] [] 3) (aU IA) (bN [ai "ends"])
noncomputable def L8:aG:=cS "_law_place"
noncomputable def zX:aX:={kind:=DI L8,jq:=[],attrs:=[ai "index",ai "line",ai "column"].map λn=>(53,n),jI:=[],meths:=[],fns:=[],ctors:=[],loops:=[],insts:=[],g7:=[],calm:=[],quiet:=af,dep:=0}
def LP:Fn:=dO zX (aU L8) (bN [ai "mark"])
theorem aaI(n:Int)(w:List Nat)(self:Self)(k:Res→Self→au)(h1:(ltI (n%12) 3)=ae)(h3:(bx (V.lst [(V.str [97]),(V.str [98,99]),(V.str [45,45,45]),(V.str [46,46,46]),(V.str [233]),(V.str [128512]),(V.str [65279]),(V.str [35,58]),(V.str [39])]) (V.int (n/12%9)))=ag (V.str w))(h5:(aB w [65279])=ae){r:R}(hk:Gv (k (.ok (V.tup [(V.str [119,111,114,100]),(V.str w),(V.str w),(V.int 0)])) self) r):Gv (fF [.int n,.bool ae] [] self k) r:=by
 obtain⟨p,hk⟩:=hk
 exact Gv.of (ae::ae::ae::ae::p) (E:=((ltI (n%12) 3)=ae∧(ae=ae∧(ae=ae∧(op (bx (V.lst [(V.str [97]),(V.str [98,99]),(V.str [45,45,45]),(V.str [46,46,46]),(V.str [233]),(V.str [128512]),(V.str [65279]),(V.str [35,58]),(V.str [39])]) (V.int (n/12%9))) λy2:V=>(op (oB (cN 8 y2 (V.str [65279]))) λy4:Bool=>(y4=ae∧(k (.ok (V.tup [(V.str [119,111,114,100]),y2,y2,(V.int 0)])) self p r)))))))) (by kernel_rfl) (⟨h1,⟨rfl,⟨rfl,(az h3 (az rfl ⟨h5,hk⟩))⟩⟩⟩)
theorem aaJ(n:Int)(w:List Nat)(self:Self)(k:Res→Self→au)(h1:(ltI (n%12) 3)=ae)(h3:(bx (V.lst [(V.str [97]),(V.str [98,99]),(V.str [45,45,45]),(V.str [46,46,46]),(V.str [233]),(V.str [128512]),(V.str [65279]),(V.str [35,58]),(V.str [39])]) (V.int (n/12%9)))=ag (V.str w))(h5:(aB w [65279])=af){r:R}(hk:Gv (k (.ok (V.tup [(V.str [119,111,114,100]),(V.str w),(V.str w),(V.int (↑(av w)))])) self) r):Gv (fF [.int n,.bool ae] [] self k) r:=by
 obtain⟨p,hk⟩:=hk
 exact Gv.of (ae::ae::ae::af::p) (E:=((ltI (n%12) 3)=ae∧(ae=ae∧(ae=ae∧(op (bx (V.lst [(V.str [97]),(V.str [98,99]),(V.str [45,45,45]),(V.str [46,46,46]),(V.str [233]),(V.str [128512]),(V.str [65279]),(V.str [35,58]),(V.str [39])]) (V.int (n/12%9))) λy2:V=>(op (oB (cN 8 y2 (V.str [65279]))) λy4:Bool=>(y4=af∧(op (gh (GW ie g_ [] 3) Bi.len [y2]) λy6:V=>(k (.ok (V.tup [(V.str [119,111,114,100]),y2,y2,y6])) self p r))))))))) (by kernel_rfl) (⟨h1,⟨rfl,⟨rfl,(az h3 (az rfl ⟨h5,(az rfl hk)⟩))⟩⟩⟩)
theorem aaK(n:Int)(w:List Nat)(self:Self)(k:Res→Self→au)(h1:(ltI (n%12) 3)=af)(h2:(aI (n%12) 11)=ae)(h4:(bx (V.lst [(V.str [97]),(V.str [98,99]),(V.str [45,45,45]),(V.str [46,46,46]),(V.str [233]),(V.str [128512]),(V.str [65279]),(V.str [35,58]),(V.str [39])]) (V.int (n/12%9)))=ag (V.str w))(h6:(aB w [65279])=ae){r:R}(hk:Gv (k (.ok (V.tup [(V.str [119,111,114,100]),(V.str w),(V.str w),(V.int 0)])) self) r):Gv (fF [.int n,.bool ae] [] self k) r:=by
 obtain⟨p,hk⟩:=hk
 exact Gv.of (af::ae::ae::ae::ae::p) (E:=((ltI (n%12) 3)=af∧((aI (n%12) 11)=ae∧(ae=ae∧(ae=ae∧(op (bx (V.lst [(V.str [97]),(V.str [98,99]),(V.str [45,45,45]),(V.str [46,46,46]),(V.str [233]),(V.str [128512]),(V.str [65279]),(V.str [35,58]),(V.str [39])]) (V.int (n/12%9))) λy3:V=>(op (oB (cN 8 y3 (V.str [65279]))) λy5:Bool=>(y5=ae∧(k (.ok (V.tup [(V.str [119,111,114,100]),y3,y3,(V.int 0)])) self p r))))))))) (by kernel_rfl) (⟨h1,⟨h2,⟨rfl,⟨rfl,(az h4 (az rfl ⟨h6,hk⟩))⟩⟩⟩⟩)
theorem aaL(n:Int)(w:List Nat)(self:Self)(k:Res→Self→au)(h1:(ltI (n%12) 3)=af)(h2:(aI (n%12) 11)=ae)(h4:(bx (V.lst [(V.str [97]),(V.str [98,99]),(V.str [45,45,45]),(V.str [46,46,46]),(V.str [233]),(V.str [128512]),(V.str [65279]),(V.str [35,58]),(V.str [39])]) (V.int (n/12%9)))=ag (V.str w))(h6:(aB w [65279])=af){r:R}(hk:Gv (k (.ok (V.tup [(V.str [119,111,114,100]),(V.str w),(V.str w),(V.int (↑(av w)))])) self) r):Gv (fF [.int n,.bool ae] [] self k) r:=by
 obtain⟨p,hk⟩:=hk
 exact Gv.of (af::ae::ae::ae::af::p) (E:=((ltI (n%12) 3)=af∧((aI (n%12) 11)=ae∧(ae=ae∧(ae=ae∧(op (bx (V.lst [(V.str [97]),(V.str [98,99]),(V.str [45,45,45]),(V.str [46,46,46]),(V.str [233]),(V.str [128512]),(V.str [65279]),(V.str [35,58]),(V.str [39])]) (V.int (n/12%9))) λy3:V=>(op (oB (cN 8 y3 (V.str [65279]))) λy5:Bool=>(y5=af∧(op (gh (GW ie g_ [] 3) Bi.len [y3]) λy7:V=>(k (.ok (V.tup [(V.str [119,111,114,100]),y3,y3,y7])) self p r)))))))))) (by kernel_rfl) (⟨h1,⟨h2,⟨rfl,⟨rfl,(az h4 (az rfl ⟨h6,(az rfl hk)⟩))⟩⟩⟩⟩)
theorem aaD(n:Int)(w:List Nat)(self:Self)(k:Res→Self→au)(h1:(ltI (n%12) 3)=af)(h2:(aI (n%12) 11)=af)(h3:(aI (n%12) 3)=ae)(h5:(bx (V.lst kR) (V.int (n/12%3)))=ag (V.str w))(h7:(bx (V.lst kR) (V.int (n/12%3)))=ag (V.str w)){r:R}(hk:Gv (k (.ok (V.tup [(V.str (sL "blank")),(V.str w),(V.str []),(V.int (↑(av w)))])) self) r):Gv (fF [.int n,.bool ae] [] self k) r:=by
 obtain⟨p,hk⟩:=hk
 exact Gv.of (af::af::af::ae::p) (E:=((ltI (n%12) 3)=af∧((aI (n%12) 11)=af∧(af=af∧((aI (n%12) 3)=ae∧(op (bx (V.lst kR) (V.int (n/12%3))) λy4:V=>(op (bx (V.lst kR) (V.int (n/12%3))) λy6:V=>(op (gh (GW ie g_ [] 3) Bi.len [y6]) λy8:V=>(k (.ok (V.tup [(V.str (sL "blank")),y4,(V.str []),y8])) self p r))))))))) (by kernel_rfl) (⟨h1,⟨h2,⟨rfl,⟨h3,(az h5 (az h7 (az rfl hk)))⟩⟩⟩⟩)
theorem aaG(n:Int)(w:List Nat)(self:Self)(k:Res→Self→au)(h1:(ltI (n%12) 3)=af)(h2:(aI (n%12) 11)=af)(h3:(aI (n%12) 3)=af)(h4:(ltI (n%12) 7)=af)(h5:(ltI (n%12) 10)=af)(h6:(ltI (n/12%9) 7)=af)(h8:(bx (V.lst rK) (V.int (n/12%2)))=ag (V.str w)){r:R}(hk:Gv (k (.ok (V.tup [(V.str [109,97,114,107]),(V.str w),(V.str []),(V.int 0)])) self) r):Gv (fF [.int n,.bool ae] [] self k) r:=by
 obtain⟨p,hk⟩:=hk
 exact Gv.of (af::af::af::af::af::af::ae::af::af::p) (E:=((ltI (n%12) 3)=af∧((aI (n%12) 11)=af∧(af=af∧((aI (n%12) 3)=af∧((ltI (n%12) 7)=af∧((ltI (n%12) 10)=af∧(ae=ae∧((ltI (n/12%9) 7)=af∧(af=af∧(op (bx (V.lst rK) (V.int (n/12%2))) λy7:V=>(k (.ok (V.tup [(V.str [109,97,114,107]),y7,(V.str []),(V.int 0)])) self p r)))))))))))) (by kernel_rfl) (⟨h1,⟨h2,⟨rfl,⟨h3,⟨h4,⟨h5,⟨rfl,⟨h6,⟨rfl,(az h8 hk)⟩⟩⟩⟩⟩⟩⟩⟩⟩)
theorem aaF(n:Int)(w v:List Nat)(c:Int)(self:Self)(k:Res→Self→au)(h1:(ltI (n%12) 3)=af)(h2:(aI (n%12) 11)=af)(h3:(aI (n%12) 3)=af)(h4:(ltI (n%12) 7)=ae)(h6:(bx (V.lst kS) (V.int (n/12%7)))=ag (V.tup [(V.str w),(V.str v),(V.int c)]))(h9:(aI (n%12) 6)=af){r:R}(hk:Gv (k (.ok (V.tup [(V.str [108,105,110,101]),(V.str w),(V.str v),(V.int c)])) self) r):Gv (fF [.int n,.bool ae] [] self k) r:=by
 obtain⟨p,hk⟩:=hk
 exact Gv.of (af::af::af::af::ae::af::af::p) (E:=((ltI (n%12) 3)=af∧((aI (n%12) 11)=af∧(af=af∧((aI (n%12) 3)=af∧((ltI (n%12) 7)=ae∧(op (bx (V.lst kS) (V.int (n/12%7))) λy5:V=>(op (V.t? y5) λy7:(List V)=>(tp (cY y7&&(ae&&l8 (GW ie g_ [] 3) [ic (ai "meaning") (eM 1090 16 1090 23),ic (ai "columns") (eM 1090 25 1090 32)] (fb y7))) ((aI (n%12) 6)=af∧(af=af∧(k (.ok (V.tup [(V.str [108,105,110,101]),(fQ y7),(fQ (fb y7)),(fQ (fb (fb y7)))])) self p r)))))))))))) (by kernel_rfl) (⟨h1,⟨h2,⟨rfl,⟨h3,⟨h4,(az h6 (az rfl (aM rfl ⟨h9,⟨rfl,hk⟩⟩)))⟩⟩⟩⟩⟩)
theorem aaC(n:Int)(w v:List Nat)(c:Int)(self:Self)(k:Res→Self→au)(h1:(ltI (n%12) 3)=af)(h2:(aI (n%12) 11)=af)(h3:(aI (n%12) 3)=af)(h4:(ltI (n%12) 7)=ae)(h6:(bx (V.lst kS) (V.int (n/12%7)))=ag (V.tup [(V.str w),(V.str v),(V.int c)]))(h9:(aI (n%12) 6)=ae)(cq:(aJ (1+av w) 16777216)=ae){r:R}(hk:Gv (k (.ok (V.tup [(V.str [98,101,110,116]),(V.str (92::bp [] w)),(V.str []),(V.int c)])) self) r):Gv (fF [.int n,.bool ae] [] self k) r:=by
 obtain⟨p,hk⟩:=hk
 exact Gv.of (af::af::af::af::ae::ae::ae::ae::p) (E:=((ltI (n%12) 3)=af∧((aI (n%12) 11)=af∧(af=af∧((aI (n%12) 3)=af∧((ltI (n%12) 7)=ae∧(op (bx (V.lst kS) (V.int (n/12%7))) λy5:V=>(op (V.t? y5) λy7:(List V)=>(tp (cY y7&&(ae&&l8 (GW ie g_ [] 3) [ic (ai "meaning") (eM 1090 16 1090 23),ic (ai "columns") (eM 1090 25 1090 32)] (fb y7))) ((aI (n%12) 6)=ae∧(ae=ae∧(ae=ae∧(op (ob (V.s? (fQ y7)) (λ(x:List Nat)=>ag (aJ (1+av x) 16777216,[92]++x))) λdq:(Bool×List Nat)=>(tp dq.fst (k (.ok (V.tup [(V.str [98,101,110,116]),(V.str dq.snd),(V.str []),(fQ (fb (fb y7)))])) self p r))))))))))))))) (by kernel_rfl) (⟨h1,⟨h2,⟨rfl,⟨h3,⟨h4,(az h6 (az rfl (aM rfl ⟨h9,⟨rfl,⟨rfl,(az rfl (aM cq hk))⟩⟩⟩)))⟩⟩⟩⟩⟩)
theorem aaH(n:Int)(w v:List Nat)(self:Self)(k:Res→Self→au)(h1:(ltI (n%12) 3)=af)(h2:(aI (n%12) 11)=af)(h3:(aI (n%12) 3)=af)(h4:(ltI (n%12) 7)=af)(h5:(ltI (n%12) 10)=ae)(h7:(bx (V.lst uX) (V.int (n/12%26)))=ag (V.tup [(V.str w),(V.str v)])){r:R}(hk:Gv (k (.ok (V.tup [(V.str [119,111,114,100]),(V.str w),(V.str v),(V.int (↑(av w)))])) self) r):Gv (fF [.int n,.bool ae] [] self k) r:=by
 obtain⟨p,hk⟩:=hk
 exact Gv.of (af::af::af::af::af::ae::ae::p) (E:=((ltI (n%12) 3)=af∧((aI (n%12) 11)=af∧(af=af∧((aI (n%12) 3)=af∧((ltI (n%12) 7)=af∧((ltI (n%12) 10)=ae∧(ae=ae∧(op (bx (V.lst uX) (V.int (n/12%26))) λy6:V=>(op (V.t? y6) λy8:(List V)=>(tp (cY y8&&(ae&&l8 (GW ie g_ [] 3) [ic (ai "meaning") (eM 1095 16 1095 23)] (fb y8))) (op (gh (GW ie g_ [] 3) Bi.len [(fQ y8)]) λdq:V=>(k (.ok (V.tup [(V.str [119,111,114,100]),(fQ y8),(fQ (fb y8)),dq])) self p r))))))))))))) (by kernel_rfl) (⟨h1,⟨h2,⟨rfl,⟨h3,⟨h4,⟨h5,⟨rfl,(az h7 (az rfl (aM rfl (az rfl hk))))⟩⟩⟩⟩⟩⟩⟩)
theorem aaE(n:Int)(w:List Nat)(c:Int)(self:Self)(k:Res→Self→au)(h1:(ltI (n%12) 3)=af)(h2:(aI (n%12) 11)=af)(h3:(aI (n%12) 3)=af)(h4:(ltI (n%12) 7)=af)(h5:(ltI (n%12) 10)=af)(h6:(ltI (n/12%9) 7)=ae)(h8:(bx (V.lst uY) (V.int (n/12%9)))=ag (V.tup [(V.str w),(V.int c)])){r:R}(hk:Gv (k (.ok (V.tup [(V.str (sL "fault")),(V.str w),(V.int c),(V.int 0)])) self) r):Gv (fF [.int n,.bool ae] [] self k) r:=by
 obtain⟨p,hk⟩:=hk
 exact Gv.of (af::af::af::af::af::af::ae::ae::ae::p) (E:=((ltI (n%12) 3)=af∧((aI (n%12) 11)=af∧(af=af∧((aI (n%12) 3)=af∧((ltI (n%12) 7)=af∧((ltI (n%12) 10)=af∧(ae=ae∧((ltI (n/12%9) 7)=ae∧(ae=ae∧(op (bx (V.lst uY) (V.int (n/12%9))) λy7:V=>(op (V.t? y7) λy9:(List V)=>(tp (cY y9&&(ae&&l8 (GW ie g_ [] 3) [ic (ai "ahead") (eM 1098 16 1098 21)] (fb y9))) (k (.ok (V.tup [(V.str (sL "fault")),(fQ y9),(fQ (fb y9)),(V.int 0)])) self p r)))))))))))))) (by kernel_rfl) (⟨h1,⟨h2,⟨rfl,⟨h3,⟨h4,⟨h5,⟨rfl,⟨h6,⟨rfl,(az h8 (az rfl (aM rfl hk)))⟩⟩⟩⟩⟩⟩⟩⟩⟩)
theorem aay(n:Int)(w:List Nat)(self:Self)(k:Res→Self→au)(h1:(ltI (n%12) 3)=ae)(h3:(bx (V.lst [(V.str [97]),(V.str [98,99]),(V.str [45,45,45]),(V.str [46,46,46]),(V.str [233]),(V.str [128512]),(V.str [65279]),(V.str [35,58]),(V.str [34])]) (V.int (n/12%9)))=ag (V.str w))(h5:(aB w [65279])=ae){r:R}(hk:Gv (k (.ok (V.tup [(V.str [119,111,114,100]),(V.str w),(V.str w),(V.int 0)])) self) r):Gv (fF [.int n,.bool af] [] self k) r:=by
 obtain⟨p,hk⟩:=hk
 exact Gv.of (ae::ae::af::ae::p) (E:=((ltI (n%12) 3)=ae∧(ae=ae∧(af=af∧(op (bx (V.lst [(V.str [97]),(V.str [98,99]),(V.str [45,45,45]),(V.str [46,46,46]),(V.str [233]),(V.str [128512]),(V.str [65279]),(V.str [35,58]),(V.str [34])]) (V.int (n/12%9))) λy2:V=>(op (oB (cN 8 y2 (V.str [65279]))) λy4:Bool=>(y4=ae∧(k (.ok (V.tup [(V.str [119,111,114,100]),y2,y2,(V.int 0)])) self p r)))))))) (by kernel_rfl) (⟨h1,⟨rfl,⟨rfl,(az h3 (az rfl ⟨h5,hk⟩))⟩⟩⟩)
theorem aaz(n:Int)(w:List Nat)(self:Self)(k:Res→Self→au)(h1:(ltI (n%12) 3)=ae)(h3:(bx (V.lst [(V.str [97]),(V.str [98,99]),(V.str [45,45,45]),(V.str [46,46,46]),(V.str [233]),(V.str [128512]),(V.str [65279]),(V.str [35,58]),(V.str [34])]) (V.int (n/12%9)))=ag (V.str w))(h5:(aB w [65279])=af){r:R}(hk:Gv (k (.ok (V.tup [(V.str [119,111,114,100]),(V.str w),(V.str w),(V.int (↑(av w)))])) self) r):Gv (fF [.int n,.bool af] [] self k) r:=by
 obtain⟨p,hk⟩:=hk
 exact Gv.of (ae::ae::af::af::p) (E:=((ltI (n%12) 3)=ae∧(ae=ae∧(af=af∧(op (bx (V.lst [(V.str [97]),(V.str [98,99]),(V.str [45,45,45]),(V.str [46,46,46]),(V.str [233]),(V.str [128512]),(V.str [65279]),(V.str [35,58]),(V.str [34])]) (V.int (n/12%9))) λy2:V=>(op (oB (cN 8 y2 (V.str [65279]))) λy4:Bool=>(y4=af∧(op (gh (GW ie g_ [] 3) Bi.len [y2]) λy6:V=>(k (.ok (V.tup [(V.str [119,111,114,100]),y2,y2,y6])) self p r))))))))) (by kernel_rfl) (⟨h1,⟨rfl,⟨rfl,(az h3 (az rfl ⟨h5,(az rfl hk)⟩))⟩⟩⟩)
theorem aaA(n:Int)(w:List Nat)(self:Self)(k:Res→Self→au)(h1:(ltI (n%12) 3)=af)(h2:(aI (n%12) 11)=ae)(h4:(bx (V.lst [(V.str [97]),(V.str [98,99]),(V.str [45,45,45]),(V.str [46,46,46]),(V.str [233]),(V.str [128512]),(V.str [65279]),(V.str [35,58]),(V.str [34])]) (V.int (n/12%9)))=ag (V.str w))(h6:(aB w [65279])=ae){r:R}(hk:Gv (k (.ok (V.tup [(V.str [119,111,114,100]),(V.str w),(V.str w),(V.int 0)])) self) r):Gv (fF [.int n,.bool af] [] self k) r:=by
 obtain⟨p,hk⟩:=hk
 exact Gv.of (af::ae::ae::af::ae::p) (E:=((ltI (n%12) 3)=af∧((aI (n%12) 11)=ae∧(ae=ae∧(af=af∧(op (bx (V.lst [(V.str [97]),(V.str [98,99]),(V.str [45,45,45]),(V.str [46,46,46]),(V.str [233]),(V.str [128512]),(V.str [65279]),(V.str [35,58]),(V.str [34])]) (V.int (n/12%9))) λy3:V=>(op (oB (cN 8 y3 (V.str [65279]))) λy5:Bool=>(y5=ae∧(k (.ok (V.tup [(V.str [119,111,114,100]),y3,y3,(V.int 0)])) self p r))))))))) (by kernel_rfl) (⟨h1,⟨h2,⟨rfl,⟨rfl,(az h4 (az rfl ⟨h6,hk⟩))⟩⟩⟩⟩)
theorem aaB(n:Int)(w:List Nat)(self:Self)(k:Res→Self→au)(h1:(ltI (n%12) 3)=af)(h2:(aI (n%12) 11)=ae)(h4:(bx (V.lst [(V.str [97]),(V.str [98,99]),(V.str [45,45,45]),(V.str [46,46,46]),(V.str [233]),(V.str [128512]),(V.str [65279]),(V.str [35,58]),(V.str [34])]) (V.int (n/12%9)))=ag (V.str w))(h6:(aB w [65279])=af){r:R}(hk:Gv (k (.ok (V.tup [(V.str [119,111,114,100]),(V.str w),(V.str w),(V.int (↑(av w)))])) self) r):Gv (fF [.int n,.bool af] [] self k) r:=by
 obtain⟨p,hk⟩:=hk
 exact Gv.of (af::ae::ae::af::af::p) (E:=((ltI (n%12) 3)=af∧((aI (n%12) 11)=ae∧(ae=ae∧(af=af∧(op (bx (V.lst [(V.str [97]),(V.str [98,99]),(V.str [45,45,45]),(V.str [46,46,46]),(V.str [233]),(V.str [128512]),(V.str [65279]),(V.str [35,58]),(V.str [34])]) (V.int (n/12%9))) λy3:V=>(op (oB (cN 8 y3 (V.str [65279]))) λy5:Bool=>(y5=af∧(op (gh (GW ie g_ [] 3) Bi.len [y3]) λy7:V=>(k (.ok (V.tup [(V.str [119,111,114,100]),y3,y3,y7])) self p r)))))))))) (by kernel_rfl) (⟨h1,⟨h2,⟨rfl,⟨rfl,(az h4 (az rfl ⟨h6,(az rfl hk)⟩))⟩⟩⟩⟩)
theorem aau(n:Int)(w:List Nat)(self:Self)(k:Res→Self→au)(h1:(ltI (n%12) 3)=af)(h2:(aI (n%12) 11)=af)(h3:(aI (n%12) 3)=ae)(h5:(bx (V.lst kR) (V.int (n/12%3)))=ag (V.str w))(h7:(bx (V.lst kR) (V.int (n/12%3)))=ag (V.str w)){r:R}(hk:Gv (k (.ok (V.tup [(V.str (sL "blank")),(V.str w),(V.str []),(V.int (↑(av w)))])) self) r):Gv (fF [.int n,.bool af] [] self k) r:=by
 obtain⟨p,hk⟩:=hk
 exact Gv.of (af::af::af::ae::p) (E:=((ltI (n%12) 3)=af∧((aI (n%12) 11)=af∧(af=af∧((aI (n%12) 3)=ae∧(op (bx (V.lst kR) (V.int (n/12%3))) λy4:V=>(op (bx (V.lst kR) (V.int (n/12%3))) λy6:V=>(op (gh (GW ie g_ [] 3) Bi.len [y6]) λy8:V=>(k (.ok (V.tup [(V.str (sL "blank")),y4,(V.str []),y8])) self p r))))))))) (by kernel_rfl) (⟨h1,⟨h2,⟨rfl,⟨h3,(az h5 (az h7 (az rfl hk)))⟩⟩⟩⟩)
theorem aaw(n:Int)(w:List Nat)(self:Self)(k:Res→Self→au)(h1:(ltI (n%12) 3)=af)(h2:(aI (n%12) 11)=af)(h3:(aI (n%12) 3)=af)(h4:(ltI (n%12) 7)=af)(h5:(ltI (n%12) 10)=af)(h7:(bx (V.lst rK) (V.int (n/12%2)))=ag (V.str w)){r:R}(hk:Gv (k (.ok (V.tup [(V.str [109,97,114,107]),(V.str w),(V.str []),(V.int 0)])) self) r):Gv (fF [.int n,.bool af] [] self k) r:=by
 obtain⟨p,hk⟩:=hk
 exact Gv.of (af::af::af::af::af::af::af::af::p) (E:=((ltI (n%12) 3)=af∧((aI (n%12) 11)=af∧(af=af∧((aI (n%12) 3)=af∧((ltI (n%12) 7)=af∧((ltI (n%12) 10)=af∧(af=af∧(af=af∧(op (bx (V.lst rK) (V.int (n/12%2))) λy6:V=>(k (.ok (V.tup [(V.str [109,97,114,107]),y6,(V.str []),(V.int 0)])) self p r))))))))))) (by kernel_rfl) (⟨h1,⟨h2,⟨rfl,⟨h3,⟨h4,⟨h5,⟨rfl,⟨rfl,(az h7 hk)⟩⟩⟩⟩⟩⟩⟩⟩)
theorem aav(n:Int)(w v:List Nat)(c:Int)(self:Self)(k:Res→Self→au)(h1:(ltI (n%12) 3)=af)(h2:(aI (n%12) 11)=af)(h3:(aI (n%12) 3)=af)(h4:(ltI (n%12) 7)=ae)(h6:(bx (V.lst kS) (V.int (n/12%7)))=ag (V.tup [(V.str w),(V.str v),(V.int c)]))(h9:(aI (n%12) 6)=af){r:R}(hk:Gv (k (.ok (V.tup [(V.str [108,105,110,101]),(V.str w),(V.str v),(V.int c)])) self) r):Gv (fF [.int n,.bool af] [] self k) r:=by
 obtain⟨p,hk⟩:=hk
 exact Gv.of (af::af::af::af::ae::af::af::p) (E:=((ltI (n%12) 3)=af∧((aI (n%12) 11)=af∧(af=af∧((aI (n%12) 3)=af∧((ltI (n%12) 7)=ae∧(op (bx (V.lst kS) (V.int (n/12%7))) λy5:V=>(op (V.t? y5) λy7:(List V)=>(tp (cY y7&&(ae&&l8 (GW ie g_ [] 3) [ic (ai "meaning") (eM 1090 16 1090 23),ic (ai "columns") (eM 1090 25 1090 32)] (fb y7))) ((aI (n%12) 6)=af∧(af=af∧(k (.ok (V.tup [(V.str [108,105,110,101]),(fQ y7),(fQ (fb y7)),(fQ (fb (fb y7)))])) self p r)))))))))))) (by kernel_rfl) (⟨h1,⟨h2,⟨rfl,⟨h3,⟨h4,(az h6 (az rfl (aM rfl ⟨h9,⟨rfl,hk⟩⟩)))⟩⟩⟩⟩⟩)
theorem aat(n:Int)(w v:List Nat)(c:Int)(self:Self)(k:Res→Self→au)(h1:(ltI (n%12) 3)=af)(h2:(aI (n%12) 11)=af)(h3:(aI (n%12) 3)=af)(h4:(ltI (n%12) 7)=ae)(h6:(bx (V.lst kS) (V.int (n/12%7)))=ag (V.tup [(V.str w),(V.str v),(V.int c)]))(h9:(aI (n%12) 6)=ae){r:R}(hk:Gv (k (.ok (V.tup [(V.str [108,105,110,101]),(V.str w),(V.str v),(V.int c)])) self) r):Gv (fF [.int n,.bool af] [] self k) r:=by
 obtain⟨p,hk⟩:=hk
 exact Gv.of (af::af::af::af::ae::ae::af::af::p) (E:=((ltI (n%12) 3)=af∧((aI (n%12) 11)=af∧(af=af∧((aI (n%12) 3)=af∧((ltI (n%12) 7)=ae∧(op (bx (V.lst kS) (V.int (n/12%7))) λy5:V=>(op (V.t? y5) λy7:(List V)=>(tp (cY y7&&(ae&&l8 (GW ie g_ [] 3) [ic (ai "meaning") (eM 1090 16 1090 23),ic (ai "columns") (eM 1090 25 1090 32)] (fb y7))) ((aI (n%12) 6)=ae∧(af=af∧(af=af∧(k (.ok (V.tup [(V.str [108,105,110,101]),(fQ y7),(fQ (fb y7)),(fQ (fb (fb y7)))])) self p r))))))))))))) (by kernel_rfl) (⟨h1,⟨h2,⟨rfl,⟨h3,⟨h4,(az h6 (az rfl (aM rfl ⟨h9,⟨rfl,⟨rfl,hk⟩⟩⟩)))⟩⟩⟩⟩⟩)
theorem aax(n:Int)(w v:List Nat)(self:Self)(k:Res→Self→au)(h1:(ltI (n%12) 3)=af)(h2:(aI (n%12) 11)=af)(h3:(aI (n%12) 3)=af)(h4:(ltI (n%12) 7)=af)(h5:(ltI (n%12) 10)=ae)(h7:(bx (V.lst wL) (V.int (n/12%4)))=ag (V.tup [(V.str w),(V.str v)])){r:R}(hk:Gv (k (.ok (V.tup [(V.str [119,111,114,100]),(V.str w),(V.str v),(V.int (↑(av w)))])) self) r):Gv (fF [.int n,.bool af] [] self k) r:=by
 obtain⟨p,hk⟩:=hk
 exact Gv.of (af::af::af::af::af::ae::af::p) (E:=((ltI (n%12) 3)=af∧((aI (n%12) 11)=af∧(af=af∧((aI (n%12) 3)=af∧((ltI (n%12) 7)=af∧((ltI (n%12) 10)=ae∧(af=af∧(op (bx (V.lst wL) (V.int (n/12%4))) λy6:V=>(op (V.t? y6) λy8:(List V)=>(tp (cY y8&&(ae&&l8 (GW ie g_ [] 3) [ic (ai "meaning") (eM 1095 16 1095 23)] (fb y8))) (op (gh (GW ie g_ [] 3) Bi.len [(fQ y8)]) λdq:V=>(k (.ok (V.tup [(V.str [119,111,114,100]),(fQ y8),(fQ (fb y8)),dq])) self p r))))))))))))) (by kernel_rfl) (⟨h1,⟨h2,⟨rfl,⟨h3,⟨h4,⟨h5,⟨rfl,(az h7 (az rfl (aM rfl (az rfl hk))))⟩⟩⟩⟩⟩⟩⟩)
theorem TZ(l:List V)(w:List Nat)(self:Self)(k:Res→Self→au)(h2:(bx (V.lst l) (V.int 0))=ag (V.str w))(h4:(aB w [10])=ae){y5:V}(h6:(fy ae (V.lst l) (ag (V.int 1)) bg)=ag y5){y7:(List V)}(h8:(V.l? y5)=ag y7){y9:(List Nat)}(aY:(gq y7)=ag y9)(cq:(short y9&&short y7)=ae)(bf:(cY y9)=ae){r:R}(hk:Gv (k (.ok (V.str y9)) self) r):Gv (ye [.lst l] [] self k) r:=by
 obtain⟨p,hk⟩:=hk
 exact Gv.of (ae::ae::p) (E:=(op (bx (V.lst l) (V.int 0)) λy1:V=>(op (oB (cN 8 y1 (V.str [10]))) λy3:Bool=>(y3=ae∧(op (fy ae (V.lst l) (ag (V.int 1)) bg) λy5:V=>(op (V.l? y5) λy7:(List V)=>(op (gq y7) λy9:(List Nat)=>(tp (short y9&&short y7) ((cY y9)=ae∧(k (.ok (V.str y9)) self p r)))))))))) (by kernel_rfl) ((az h2 (az rfl ⟨h4,(az h6 (az h8 (az aY (aM cq ⟨bf,hk⟩))))⟩)))
theorem TY(l:List V)(w:List Nat)(self:Self)(k:Res→Self→au)(h2:(bx (V.lst l) (V.int 0))=ag (V.str w))(h4:(aB w [10])=ae){y5:V}(h6:(fy ae (V.lst l) (ag (V.int 1)) bg)=ag y5){y7:(List V)}(h8:(V.l? y5)=ag y7){y9:(List Nat)}(aY:(gq y7)=ag y9)(cq:(short y9&&short y7)=ae)(bf:(cY y9)=af){r:R}(hk:Gv (k (.ok (V.str [32])) self) r):Gv (ye [.lst l] [] self k) r:=by
 obtain⟨p,hk⟩:=hk
 exact Gv.of (ae::af::p) (E:=(op (bx (V.lst l) (V.int 0)) λy1:V=>(op (oB (cN 8 y1 (V.str [10]))) λy3:Bool=>(y3=ae∧(op (fy ae (V.lst l) (ag (V.int 1)) bg) λy5:V=>(op (V.l? y5) λy7:(List V)=>(op (gq y7) λy9:(List Nat)=>(tp (short y9&&short y7) ((cY y9)=af∧(k (.ok (V.str [32])) self p r)))))))))) (by kernel_rfl) ((az h2 (az rfl ⟨h4,(az h6 (az h8 (az aY (aM cq ⟨bf,hk⟩))))⟩)))
theorem TV(l:List V)(w:List Nat)(self:Self)(k:Res→Self→au)(h2:(bx (V.lst l) (V.int 0))=ag (V.str w))(h4:(aB w [10])=af){y5:(List Nat)}(h6:(gq l)=ag y5)(h7:(short y5&&short l)=ae){r:R}(hk:Gv (k (.ok (V.str y5)) self) r):Gv (ye [.lst l] [] self k) r:=by
 obtain⟨p,hk⟩:=hk
 exact Gv.of (af::p) (E:=(op (bx (V.lst l) (V.int 0)) λy1:V=>(op (oB (cN 8 y1 (V.str [10]))) λy3:Bool=>(y3=af∧(op (gq l) λy5:(List Nat)=>(tp (short y5&&short l) (k (.ok (V.str y5)) self p r))))))) (by kernel_rfl) ((az h2 (az rfl ⟨h4,(az h6 (aM h7 hk))⟩)))
theorem aaT(a b i l c p:V)(self:Self)(k:Res→Self→au){r:R}(hk:Gv (k (.ok (V.tup [i,l,c])) self) r):Gv (LP [.obj 53 [(ai "name",a),(ai "index",i),(ai "line",l),(ai "column",c),(ai "buffer",b),(ai "pointer",p)]] [] self k) r:=by
 obtain⟨p,hk⟩:=hk
 exact Gv.of (p) (by kernel_rfl) hk
inductive Kd where
 |order|dash|start|word|blank|line|eD|fault|mark|close|next
noncomputable def Kd.nm(k:Kd):List Nat:=Kd.casesOn k [111,114,100,101,114] [100,97,115,104] [115,116,97,114,116] [119,111,114,100] [98,108,97,110,107] [108,105,110,101] [98,101,110,116] [102,97,117,108,116] [109,97,114,107] [99,108,111,115,101] [110,101,120,116]
noncomputable def Kd.nf(k:Kd):Bool:=Kd.casesOn k af af af af af af af ae af af af
structure Pc where
 kd:Kd
 src:List Nat
 mean:List Nat
 ahead:Nat
 cols:Nat
noncomputable def Pc.v(p:Pc):V:=.tup [.str p.kd.nm,.str p.src,br p.kd.nf (.int (p.ahead:Nat)) (.str p.mean),.int (p.cols:Nat)]
noncomputable def mz(d:Bool):List (List Nat):=NW++[br d [39] [34]]
noncomputable def og(w:List Nat):Pc:=⟨.word,w,w,0,br (aB w [65279]) 0 w.length⟩
noncomputable def xD(w:List Nat):Pc:=⟨.blank,w,[],0,w.length⟩
noncomputable def yU(e:List Nat×List Nat×Nat):Pc:=⟨.line,e.1,e.2.1,0,e.2.2⟩
noncomputable def xy(e:List Nat×List Nat×Nat):Pc:=⟨.eD,92::e.1,[],0,e.2.2⟩
noncomputable def qw(e:List Nat×List Nat):Pc:=⟨.word,e.1,e.2,0,e.1.length⟩
noncomputable def xV(e:List Nat×Nat):Pc:=⟨.fault,e.1,[],e.2,0⟩
noncomputable def zh(w:List Nat):Pc:=⟨.mark,w,[],0,0⟩
noncomputable def ix{α:Type}(l:List α)(i:Int)(x:α):α:=l.getD i.toNat x
noncomputable def pieceOf(n:Int)(d:Bool):Pc:=
 br (
  ltI (n%12) 3||aI (n%12) 11) (og (ix (mz d) (n/12%9) []))
  (br (aI (n%12) 3) (xD (ix oK (n/12%3) []))
   (br (ltI (n%12) 7) (br (aI (n%12) 6&&d) (xy (ix iz (n/12%7) ([],[],0))) (yU (ix iz (n/12%7) ([],[],0))))
    (br (ltI (n%12) 10) (qw (br d (ix lT (n/12%26) ([],[])) (ix pW (n/12%4) ([],[]))))
     (br (ltI (n/12%9) 7&&d) (xV (ix mU (n/12%9) ([],0))) (zh (ix pF (n/12%2) []))))))
theorem W' (l:List V)(i:Int):bx (.lst l) (.int i)=nC l i:=rfl
theorem Dz{α:Type}(T:List α)(f:α→V){i:Int}(x:α)(h0:0≤i)(h1:i<(T.length:Nat))(h2:T.length≤1000):bx (.lst (T.map f)) (.int i)=ag (f (ix T i x)):=by
 obtain⟨j,rfl⟩:=aae h0
 have hj:j<T.length:=Int.ofNat_lt.mp h1
 rw[W'];unfold nC
 refine ez ?_ ?_
 ·rw[show bO 0 (j:Nat)=ae from decide_eq_true h0,show ltI (j:Nat) 4611686018427387904=ae from decide_eq_true (Int.ofNat_lt.mpr (Lx hj (aL h2 (bw rfl))))];rfl
 show(T.map f)[j]?=ag (f (T.getD j x))
 rw[zw,ER,lH hj];rfl
theorem qX{α:Type}(T:List α)(f:α→V)(i:Int)(m:Nat)(x:α)(h:T.length=m)(h0:0<m)(h2:m≤1000):bx (.lst (T.map f)) (.int (i%(m:Nat)))=ag (f (ix T (i%(m:Nat)) x)):=
 Dz T f x (zB _ (Int.ofNat_ne_zero.mpr (Lu h0))) (by rw[h];exact Int.emod_lt_of_pos _ (Int.ofNat_lt.mpr h0)) (h▸h2)
theorem AB{w:List Nat}(h:aB w [65279]=ae):(og w).v=.tup [.str [119,111,114,100],.str w,.str w,.int 0]:=by unfold og;rw[h];rfl
theorem AA{w:List Nat}(h:aB w [65279]=af):(og w).v=.tup [.str [119,111,114,100],.str w,.str w,.int w.length]:=by unfold og;rw[h];rfl
theorem zW{n:Int}{d:Bool}(h:(ltI (n%12) 3||aI (n%12) 11)=ae):pieceOf n d=og (ix (mz d) (n/12%9) []):=by unfold pieceOf;rw[h];rfl
theorem LY{n:Int}{d:Bool}(h1:ltI (n%12) 3=af)(h2:aI (n%12) 11=af)(h3:aI (n%12) 3=ae):pieceOf n d=xD (ix oK (n/12%3) []):=by unfold pieceOf;rw[h1,h2,h3];rfl
theorem EW{n:Int}{d b:Bool}(h1:ltI (n%12) 3=af)(h2:aI (n%12) 11=af)(h3:aI (n%12) 3=af)(h4:ltI (n%12) 7=ae)(h5:(aI (n%12) 6&&d)=b):pieceOf n d=br b (xy (ix iz (n/12%7) ([],[],0))) (yU (ix iz (n/12%7) ([],[],0))):=by unfold pieceOf;rw[h1,h2,h3,h4,h5];rfl
theorem LZ{n:Int}{d:Bool}(h1:ltI (n%12) 3=af)(h2:aI (n%12) 11=af)(h3:aI (n%12) 3=af)(h4:ltI (n%12) 7=af)(h5:ltI (n%12) 10=ae):pieceOf n d=qw (br d (ix lT (n/12%26) ([],[])) (ix pW (n/12%4) ([],[]))):=by unfold pieceOf;rw[h1,h2,h3,h4,h5];rfl
theorem EV{n:Int}{d b:Bool}(h1:ltI (n%12) 3=af)(h2:aI (n%12) 11=af)(h3:aI (n%12) 3=af)(h4:ltI (n%12) 7=af)(h5:ltI (n%12) 10=af)(h6:(ltI (n/12%9) 7&&d)=b):pieceOf n d=br b (xV (ix mU (n/12%9) ([],0))) (zh (ix pF (n/12%2) [])):=by unfold pieceOf;rw[h1,h2,h3,h4,h5,h6];rfl
theorem R9(i:Int):aJ (1+(ix iz i ([],[],0)).1.length) 16777216=ae:=by
 have A:iz.all (λe=>aJ (1+e.1.length) 16777216)=ae:=by kernel_rfl
 unfold ix
 rw[ER]
 cases h:iz[i.toNat]? with
 |none=>rfl
 |some e=>exact List.all_eq_true.mp A e (List.mem_of_getElem? h)
section
variable{n:Int}{self:Self}{k:Res→Self→au}{r:R}
theorem pg(d:Bool)(i:Int):bx (.lst ((mz d).map .str)) (.int (i%9))=ag (.str (ix (mz d) (i%9) [])):=qX (mz d) .str i 9 [] (by cases d<;>rfl) (bw rfl) (bw rfl)
theorem yJ(i:Int):bx (.lst kR) (.int (i%3))=ag (.str (ix oK (i%3) [])):=qX oK .str i 3 [] rfl (bw rfl) (bw rfl)
theorem yK(i:Int):bx (.lst kS) (.int (i%7))=ag (BM (ix iz (i%7) ([],[],0))):=qX iz BM i 7 ([],[],0) rfl (bw rfl) (bw rfl)
theorem W6(i:Int):bx (.lst uX) (.int (i%26))=ag (t_ (ix lT (i%26) ([],[]))):=qX lT t_ i 26 ([],[]) rfl (bw rfl) (bw rfl)
theorem W8(i:Int):bx (.lst wL) (.int (i%4))=ag (t_ (ix pW (i%4) ([],[]))):=qX pW t_ i 4 ([],[]) rfl (bw rfl) (bw rfl)
theorem J2(i:Int):bx (.lst rK) (.int (i%2))=ag (.str (ix pF (i%2) [])):=qX pF .str i 2 [] rfl (bw rfl) (bw rfl)
theorem W7{i:Int}(h:ltI (i%9) 7=ae):bx (.lst uY) (.int (i%9))=ag (BY (ix mU (i%9) ([],0))):=Dz mU BY ([],0) (zB _ (by decide)) (jT h) (bw rfl)
theorem mr{p q:Pc}(e:p=q)(h:Gv (k (.ok p.v) self) r):Gv (k (.ok q.v) self) r:=e▸h
theorem LO(h:Gv (k (.ok (pieceOf n ae).v) self) r):Gv (fF [.int n,.bool ae] [] self k) r:=by
 cases h1:ltI (n%12) 3 with
 |true=>
  rw[zW (by rw[h1];rfl)]at h
  cases h2:aB (ix (mz ae) (n/12%9) []) [65279]with
  |true=>exact aaI n _ self k h1 (pg ae _) h2 (AB h2▸h)
  |false=>exact aaJ n _ self k h1 (pg ae _) h2 (AA h2▸h)
 |false=>
 cases h3:aI (n%12) 11 with
 |true=>
  rw[zW (by rw[h1,h3];rfl)]at h
  cases h2:aB (ix (mz ae) (n/12%9) []) [65279]with
  |true=>exact aaK n _ self k h1 h3 (pg ae _) h2 (AB h2▸h)
  |false=>exact aaL n _ self k h1 h3 (pg ae _) h2 (AA h2▸h)
 |false=>
 cases h4:aI (n%12) 3 with
 |true=>exact aaD n _ self k h1 h3 h4 (yJ _) (yJ _) (mr (LY h1 h3 h4) h)
 |false=>
 cases h5:ltI (n%12) 7 with
 |true=>
  cases h6:aI (n%12) 6 with
  |true=>exact aaC n _ _ _ self k h1 h3 h4 h5 (yK _) h6 (R9 _) (mr (EW (b:=ae) h1 h3 h4 h5 (by rw[h6];rfl)) h)
  |false=>exact aaF n _ _ _ self k h1 h3 h4 h5 (yK _) h6 (mr (EW (b:=af) h1 h3 h4 h5 (by rw[h6];rfl)) h)
 |false=>
 cases h6:ltI (n%12) 10 with
 |true=>exact aaH n _ _ self k h1 h3 h4 h5 h6 (W6 _) (mr (LZ h1 h3 h4 h5 h6) h)
 |false=>
 cases h7:ltI (n/12%9) 7 with
 |true=>exact aaE n _ _ self k h1 h3 h4 h5 h6 h7 (W7 h7) (mr (EV (b:=ae) h1 h3 h4 h5 h6 (by rw[h7];rfl)) h)
 |false=>exact aaG n _ self k h1 h3 h4 h5 h6 h7 (J2 _) (mr (EV (b:=af) h1 h3 h4 h5 h6 (by rw[h7];rfl)) h)
theorem LN(h:Gv (k (.ok (pieceOf n af).v) self) r):Gv (fF [.int n,.bool af] [] self k) r:=by
 cases h1:ltI (n%12) 3 with
 |true=>
  rw[zW (by rw[h1];rfl)]at h
  cases h2:aB (ix (mz af) (n/12%9) []) [65279]with
  |true=>exact aay n _ self k h1 (pg af _) h2 (AB h2▸h)
  |false=>exact aaz n _ self k h1 (pg af _) h2 (AA h2▸h)
 |false=>
 cases h3:aI (n%12) 11 with
 |true=>
  rw[zW (by rw[h1,h3];rfl)]at h
  cases h2:aB (ix (mz af) (n/12%9) []) [65279]with
  |true=>exact aaA n _ self k h1 h3 (pg af _) h2 (AB h2▸h)
  |false=>exact aaB n _ self k h1 h3 (pg af _) h2 (AA h2▸h)
 |false=>
 cases h4:aI (n%12) 3 with
 |true=>exact aau n _ self k h1 h3 h4 (yJ _) (yJ _) (mr (LY h1 h3 h4) h)
 |false=>
 cases h5:ltI (n%12) 7 with
 |true=>
  have g:=mr (EW (d:=af) (b:=af) h1 h3 h4 h5 (by rw[zC])) h
  cases h6:aI (n%12) 6 with
  |true=>exact aat n _ _ _ self k h1 h3 h4 h5 (yK _) h6 g
  |false=>exact aav n _ _ _ self k h1 h3 h4 h5 (yK _) h6 g
 |false=>
 cases h6:ltI (n%12) 10 with
 |true=>exact aax n _ _ self k h1 h3 h4 h5 h6 (W8 _) (mr (LZ h1 h3 h4 h5 h6) h)
 |false=>exact aaw n _ self k h1 h3 h4 h5 h6 (J2 _) (mr (EV (b:=af) h1 h3 h4 h5 h6 (by rw[zC])) h)
end
noncomputable def rB(t:List Nat):List Nat:=br (cY t) t [32]
noncomputable def foldOf(l:List (List Nat)):List Nat:=cv l [] λe r=>br (aB e [10]) (rB r.flatten) (e++r.flatten)
inductive Folds:List V→List Nat→Prop
 |mk (e:List Nat) (r:List (List Nat)) (h:fw (e::r) 1000):Folds [.lst (cn (e::r))] (foldOf (e::r))
def LX:Fn:=λargs aE self k=>Tt (isNil aE) (cv args fail λx t=>Ob x.i? λn=>Ob (one t) λy=>Ob y.b? λd=>k (.ok (pieceOf n d).v) self)
def IB:Fn:=λargs aE self k=>Tt (isNil aE) λp r=>∃v:List Nat,Folds args v∧k (.ok (.str v)) self p r
noncomputable def bu(a l c:Int):V:=.tup [.int a,.int l,.int c]
inductive Place:List V→V→Prop
 |mk (s:Sc):Place [s.mark] (bu s.idx s.cI s.col)
def EY:Fn:=λargs aE self k=>Tt (isNil aE) λp r=>∃v:V,Place args v∧k (.ok v) self p r
theorem TX{args:List V}{v:List Nat}(h:Folds args v)(self:Self):Gv (ye args [] self bA) (ky (.ok (.str v)) self):=by
 induction h with
 |mk e r h=>
 obtain⟨h1,h2⟩:=h
 have i0:bx (.lst (cn (e::r))) (.int 0)=ag (.str e):=Dz (e::r) .str (i:=0) [] (Int.le_refl 0) (Int.ofNat_lt.mpr (Nat.succ_pos _)) h1
 have j:=tc (e::r)
 have s1:∀{t:List Nat},t.length≤1000→short t=ae:=λh=>cB (aL h (bw rfl))
 have s2:∀{t:List V},t.length≤1000→short t=ae:=λh=>cB (aL h (bw rfl))
 have h3:(cn (e::r)).length≤1000:=by rw[show(cn (e::r)).length=(e::r).length from e_ ..];exact h1
 cases he:aB e [10]with
 |false=>exact TV _ _ self bA i0 he j (by rw[s1 h2,s2 h3];rfl) (by rw[show foldOf (e::r)=(e::r).flatten by unfold foldOf;rw[zv];show br (aB e [10]) _ _=_;rw[he];rfl];exact Gv.leaf _)
 |true=>
  have c:fy ae (.lst (cn (e::r))) (ag (.int 1)) bg=ag (.lst (cn r)):=by
   show tt (ae&&short (cn (e::r))) (ag (V.lst (((cn (e::r)).take (cn (e::r)).length).drop 1)))=_
   rw[s2 h3,Z'];rfl
  have f:r.flatten.length≤1000:=aL (by rw[zv,bE];exact cF _ _) h2
  have g:(short r.flatten&&short (cn r))=ae:=by rw[s1 f,s2 (aL (pQ _) h3)];rfl
  have e1:foldOf (e::r)=rB r.flatten:=by unfold foldOf;show br (aB e [10]) _ _=_;rw[he];rfl
  cases hn:cY r.flatten with
  |true=>exact TZ _ _ self bA i0 he c rfl (tc r) g hn (by rw[e1];unfold rB;rw[hn];exact Gv.leaf _)
  |false=>exact TY _ _ self bA i0 he c rfl (tc r) g hn (by rw[e1];unfold rB;rw[hn];exact Gv.leaf _)
section
variable{W:Wd}(hK:W.K=K W.w.params)
include hK
theorem aar:bH W (FX W) 4 ae 1107 LX:=(fN hK (TQ hK) (Oh hK) (by decide) (by kernel_rfl)).says λargs aE self k r h=>bF h λhk h=>by
 cases args with
 |nil=>exact No h
 |cons x t=>
  refine a_ h λn hn h=>a_ h λy hy h=>a_ h λd hd h=>?_
  ·rw[c_ hk,iE hn,dN hy,j9 hd]
   cases d with
   |true=>exact LO h
   |false=>exact LN h
theorem IC:bH W (FX W) 4 ae 1114 IB:=(fN hK cK.nil (Oi hK) (D:=3) (by decide) (by kernel_rfl)).by λargs aE self k r h=>bF h λhk h=>by
 obtain⟨p,v,h1,h2⟩:=h
 exact⟨_,_,by rw[c_ hk];exact TX h1 self,p,h2⟩
theorem aaS:cb W (FX W) zX where
 keeps:=dw
 ctors:=dw
 jq:=dw
 attrs:=hK▸List.all_eq_true.mp (show(zX.attrs.all λq=>kP (K W.w.params) q.1 q.2)=ae by kernel_rfl)
 meths:=dw
 fns:=dw
 jI:=dw
 insts:=dw
 calm:=dw
 g7:=dw
theorem L9:bH W (FX W) 1 af 1128 EY:=(Ce (G:=zX) (Ol hK) (aaS hK) rfl (λy=>l9 y _) (tD (by kernel_rfl)) (DM W) (ji W)).by λargs aE self k r h=>bF h λhk h=>by
 obtain⟨p,v,h1,h2⟩:=h
 refine⟨_,_,?_,p,h2⟩
 rw[c_ hk]
 induction h1 with
 |mk s=>exact aaT _ _ _ _ _ _ self bA (Gv.leaf _)
end
noncomputable def nu:aG:=cS "_law_read"
noncomputable def ki:aG:=eU (cC (aU nu)) 0
noncomputable def Cm:List (aQ×Fn):=[(1114,IB)]
noncomputable def cW:aX:=GW nu Cm [] 4
def q_:V→aq→au:=ft cW (eI ki) (bS ki)
def D6:Lp:=forL cW (eI ki) (eX ki) (bS ki)
noncomputable def vY:aX:=GW nu Cm [(ki.pos.line,D6)] 4
def Ko:Fn:=dO vY (aU nu) (bN [ai "row",ai "text"])
noncomputable def bR:List aG:=(bS ki).drop 1
noncomputable def bC:List aG:=bR.take 1
noncomputable def bT:List aG:=bR.drop 1
noncomputable def JF(s:aG):Option (aw×List aG×List aG):=j4 s.ctorIdx 12 λh=>Stmt.If.elim (motive_2:=λ_=>aw×List aG×List aG) s h λt b o _=>(t,b,o)
noncomputable def sy(b:List aG):List aG:=oe (JF (eU b 0)) (·.2.2) []
noncomputable def adv(b:List aG):List aG:=oe (JF (eU b 0)) (·.2.1) []
noncomputable def bW:List aG:=adv (sy (sy (sy (sy (sy (sy bC))))))
noncomputable def mI:List aG:=bW.take 1
noncomputable def oI:List aG:=(bW.drop 1).take 1
noncomputable def oJ:List aG:=bW.drop 2
noncomputable def Kn(row text due a l c start value wait ends ins fresh:FV):aq:=⟨[(ai "row",row),(ai "text",text),(ai "due",due),(ai "at",a),(ai "line",l),(ai "column",c),(ai "start",start),(ai "value",value),(ai "wait",wait),(ai "ends",ends),(ai "inside",ins),(ai "fresh",fresh)],bg,af⟩
noncomputable def b7(row text due a l c start value wait ends ins fresh kind source mean cols here:FV):aq:=⟨[(ai "row",row),(ai "text",text),(ai "due",due),(ai "at",a),(ai "line",l),(ai "column",c),(ai "start",start),(ai "value",value),(ai "wait",wait),(ai "ends",ends),(ai "inside",ins),(ai "fresh",fresh),(ai "kind",kind),(ai "source",source),(ai "meaning",mean),(ai "columns",cols),(ai "here",here)],bg,af⟩
theorem aev:(bW.length,mI.length,oI.length,oJ.length,bC.length,bT.length)=(6,1,1,4,1,2):=by kernel_rfl
section
variable{r:R}(x1 x2 x3:FV)(a l c w:Int)(x4 x5 x6 x7 x8 x9 y1 y2 y3 y4 y5:FV)(k s m:V)
theorem X4(h:Gv (aN cW 59 bR (b7 x1 x2 x3 (.v (.int a)) (.v (.int l)) (.v (.int c)) x4 x5 x6 x7 x8 x9 (.v k) (.v s) (.v m) (.v (.int w)) (.v (bu a l c))) pk) r):Gv (q_ (.tup [k,s,m,.int w]) (Kn x1 x2 x3 (.v (.int a)) (.v (.int l)) (.v (.int c)) x4 x5 x6 x7 x8 x9)) r:=by
 obtain⟨p,h⟩:=h
 exact Gv.of p (by kernel_rfl) h
theorem X5(h:Gv (aN cW 59 bR (b7 x1 x2 x3 (.v (.int a)) (.v (.int l)) (.v (.int c)) x4 x5 x6 x7 x8 x9 (.v k) (.v s) (.v m) (.v (.int w)) (.v (bu a l c))) pk) r):Gv (q_ (.tup [k,s,m,.int w]) (b7 x1 x2 x3 (.v (.int a)) (.v (.int l)) (.v (.int c)) x4 x5 x6 x7 x8 x9 y1 y2 y3 y4 y5)) r:=by
 obtain⟨p,h⟩:=h
 exact Gv.of p (by kernel_rfl) h
end
theorem QT{x1 x2:FV}{due:List V}{a l c:Int}{x4:V}{value wait:List Nat}{x7:FV}{i f:Bool}{s m:List Nat}{w:Int}{k:Out→aq→au}{r:R}(hk:Gv (k .next (b7 x1 x2 (.own due) (.v (V.int a)) (.v (V.int l)) (.v (V.int c)) (.v x4) (.v (V.str value)) (.v (V.str wait)) x7 (.v (V.bool i)) (.v (V.bool f)) (.v (V.str (sL "order"))) (.v (V.str s)) (.v (V.str m)) (.v (V.int w)) (.v (bu a l c)))) r):Gv (aN cW 59 bC (b7 x1 x2 (.own due) (.v (.int a)) (.v (.int l)) (.v (.int c)) (.v x4) (.v (.str value)) (.v (.str wait)) x7 (.v (.bool i)) (.v (.bool f)) (.v (.str [111,114,100,101,114])) (.v (.str s)) (.v (.str m)) (.v (.int w)) (.v (bu a l c))) k) r:=by
 obtain⟨p,hk⟩:=hk
 exact Gv.of (af::af::af::af::af::af::af::af::af::af::p) (by kernel_rfl) (aj tF (aj tF (aj tF (aj tF (aj tF (aj tF (aj tF (aj tF (aj tF (aj tF hk))))))))))
theorem QS{x1 x2:FV}{due:List V}{a l c:Int}{x4:V}{value wait:List Nat}{x7:FV}{i f:Bool}{s m:List Nat}{w:Int}{k:Out→aq→au}{r:R}(hk:Gv (k .next (b7 x1 x2 (.own due) (.v (V.int a)) (.v (V.int l)) (.v (V.int c)) (.v x4) (.v (V.str value)) (.v (V.str wait)) x7 (.v (V.bool i)) (.v (V.bool f)) (.v (V.str [110,101,120,116])) (.v (V.str s)) (.v (V.str m)) (.v (V.int w)) (.v (bu a l c)))) r):Gv (aN cW 59 bC (b7 x1 x2 (.own due) (.v (.int a)) (.v (.int l)) (.v (.int c)) (.v x4) (.v (.str value)) (.v (.str wait)) x7 (.v (.bool i)) (.v (.bool f)) (.v (.str [110,101,120,116])) (.v (.str s)) (.v (.str m)) (.v (.int w)) (.v (bu a l c))) k) r:=by
 obtain⟨p,hk⟩:=hk
 exact Gv.of (af::af::af::af::af::af::af::af::af::af::p) (by kernel_rfl) (aj tF (aj tF (aj tF (aj tF (aj tF (aj tF (aj tF (aj tF (aj tF (aj tF hk))))))))))
theorem QL{x1 x2:FV}{due:List V}{a l c:Int}{x4:V}{value wait:List Nat}{x7:FV}{i f:Bool}{s m:List Nat}{w:Int}{k:Out→aq→au}(h1:(aJ (av due) aZ)=ae)(h2:(aI (↑(av due)) 1)=ae)(h3:(aJ (av due) aZ)=ae)(h4:(aJ (av (bp due (V.tup (V.str [60,98,108,111,99,107,32,115,101,113,117,101,110,99,101,32,115,116,97,114,116,62]::V.none::bu a l c::bu a l c::cg)::cg))) aZ)=ae){r:R}(hk:Gv (k .next (b7 x1 x2 (.own (bp (bp due [(V.tup [(V.str (sL "<block sequence start>")),V.none,(bu a l c),(bu a l c)])]) [(V.tup [(V.str [45]),V.none,(bu a l c),(V.tup [(V.int (a+1)),(V.int l),(V.int (c+1))])])])) (.v (V.int a)) (.v (V.int l)) (.v (V.int c)) (.v x4) (.v (V.str value)) (.v (V.str wait)) x7 (.v (V.bool i)) (.v (V.bool f)) (.v (V.str [100,97,115,104])) (.v (V.str s)) (.v (V.str m)) (.v (V.int w)) (.v (bu a l c)))) r):Gv (aN cW 59 bC (b7 x1 x2 (.own due) (.v (.int a)) (.v (.int l)) (.v (.int c)) (.v x4) (.v (.str value)) (.v (.str wait)) x7 (.v (.bool i)) (.v (.bool f)) (.v (.str [100,97,115,104])) (.v (.str s)) (.v (.str m)) (.v (.int w)) (.v (bu a l c))) k) r:=by
 obtain⟨p,hk⟩:=hk
 exact Gv.of (ae::ae::p) (by kernel_rfl) (aj tT (aM h1 (aj h2 (aM h3 (aM h4 hk)))))
theorem QM{x1 x2:FV}{due:List V}{a l c:Int}{x4:V}{value wait:List Nat}{x7:FV}{i f:Bool}{s m:List Nat}{w:Int}{k:Out→aq→au}(h1:(aJ (av due) aZ)=ae)(h2:(aI (↑(av due)) 1)=af)(h3:(aJ (av due) aZ)=ae){r:R}(hk:Gv (k .next (b7 x1 x2 (.own (bp due [(V.tup [(V.str [45]),V.none,(bu a l c),(V.tup [(V.int (a+1)),(V.int l),(V.int (c+1))])])])) (.v (V.int a)) (.v (V.int l)) (.v (V.int c)) (.v x4) (.v (V.str value)) (.v (V.str wait)) x7 (.v (V.bool i)) (.v (V.bool f)) (.v (V.str [100,97,115,104])) (.v (V.str s)) (.v (V.str m)) (.v (V.int w)) (.v (bu a l c)))) r):Gv (aN cW 59 bC (b7 x1 x2 (.own due) (.v (.int a)) (.v (.int l)) (.v (.int c)) (.v x4) (.v (.str value)) (.v (.str wait)) x7 (.v (.bool i)) (.v (.bool f)) (.v (.str [100,97,115,104])) (.v (.str s)) (.v (.str m)) (.v (.int w)) (.v (bu a l c))) k) r:=by
 obtain⟨p,hk⟩:=hk
 exact Gv.of (ae::af::p) (by kernel_rfl) (aj tT (aM h1 (aj h2 (aM h3 hk))))
theorem QU{x1 x2:FV}{due:List V}{a l c:Int}{x4:V}{value wait:List Nat}{x7:FV}{i f:Bool}{s m:List Nat}{w:Int}{k:Out→aq→au}{r:R}(hk:Gv (k .next (b7 x1 x2 (.own due) (.v (V.int a)) (.v (V.int l)) (.v (V.int c)) (.v (bu a l c)) (.v (V.str [])) (.v (V.str [])) (.v V.none) (.v (V.bool ae)) (.v (V.bool af)) (.v (V.str (sL "start"))) (.v (V.str s)) (.v (V.str m)) (.v (V.int w)) (.v (bu a l c)))) r):Gv (aN cW 59 bC (b7 x1 x2 (.own due) (.v (.int a)) (.v (.int l)) (.v (.int c)) (.v x4) (.v (.str value)) (.v (.str wait)) x7 (.v (.bool i)) (.v (.bool f)) (.v (.str [115,116,97,114,116])) (.v (.str s)) (.v (.str m)) (.v (.int w)) (.v (bu a l c))) k) r:=by
 obtain⟨p,hk⟩:=hk
 exact Gv.of (af::ae::p) (by kernel_rfl) (aj tF (aj tT hk))
theorem QR{x1 x2:FV}{due:List V}{a l c:Int}{x4:V}{value wait:List Nat}{x7:FV}{i f:Bool}{s m:List Nat}{w:Int}{k:Out→aq→au}{r:R}(hk:Gv (k (.ret (V.tup [(V.lst due),(V.tup [x4,(V.tup [(V.int (a+1)),(V.int (l+1)),(V.int 0)])])])) (b7 x1 x2 (.v (V.lst due)) (.v (V.int a)) (.v (V.int l)) (.v (V.int c)) (.v x4) (.v (V.str value)) (.v (V.str wait)) x7 (.v (V.bool i)) (.v (V.bool f)) (.v (V.str [109,97,114,107])) (.v (V.str s)) (.v (V.str m)) (.v (V.int w)) (.v (bu a l c)))) r):Gv (aN cW 59 bC (b7 x1 x2 (.own due) (.v (.int a)) (.v (.int l)) (.v (.int c)) (.v x4) (.v (.str value)) (.v (.str wait)) x7 (.v (.bool i)) (.v (.bool f)) (.v (.str [109,97,114,107])) (.v (.str s)) (.v (.str m)) (.v (.int w)) (.v (bu a l c))) k) r:=by
 obtain⟨p,hk⟩:=hk
 exact Gv.of (af::af::af::ae::p) (by kernel_rfl) (aj tF (aj tF (aj tF (aj tT hk))))
theorem QK{x1 x2:FV}{due:List V}{a l c:Int}{x4:V}{value wait:List Nat}{x7:FV}{i f:Bool}{s m:List Nat}{w:Int}{k:Out→aq→au}(h1:(aJ (av wait+av s) 16777216)=ae){r:R}(hk:Gv (k .next (b7 x1 x2 (.own due) (.v (V.int a)) (.v (V.int l)) (.v (V.int c)) (.v x4) (.v (V.str value)) (.v (V.str (bp wait s))) x7 (.v (V.bool i)) (.v (V.bool af)) (.v (V.str (sL "blank"))) (.v (V.str s)) (.v (V.str m)) (.v (V.int w)) (.v (bu a l c)))) r):Gv (aN cW 59 bC (b7 x1 x2 (.own due) (.v (.int a)) (.v (.int l)) (.v (.int c)) (.v x4) (.v (.str value)) (.v (.str wait)) x7 (.v (.bool i)) (.v (.bool f)) (.v (.str [98,108,97,110,107])) (.v (.str s)) (.v (.str m)) (.v (.int w)) (.v (bu a l c))) k) r:=by
 obtain⟨p,hk⟩:=hk
 exact Gv.of (af::af::af::af::ae::p) (by kernel_rfl) (aj tF (aj tF (aj tF (aj tF (aj tT (aM h1 hk))))))
theorem QN{x1 x2:FV}{due:List V}{a l c:Int}{x4:V}{value wait:List Nat}{x7:FV}{i f:Bool}{s:List Nat}{m:Int}{w:Int}{k:Out→aq→au}{r:R}(hk:Gv (k (.ret (V.tup [(V.lst due),(V.tup [x4,(V.tup [(V.int (a+m)),(V.int l),(V.int (c+m))])])])) (b7 x1 x2 (.v (V.lst due)) (.v (V.int a)) (.v (V.int l)) (.v (V.int c)) (.v x4) (.v (V.str value)) (.v (V.str wait)) x7 (.v (V.bool i)) (.v (V.bool f)) (.v (V.str (sL "fault"))) (.v (V.str s)) (.v (V.int m)) (.v (V.int w)) (.v (bu a l c)))) r):Gv (aN cW 59 bC (b7 x1 x2 (.own due) (.v (.int a)) (.v (.int l)) (.v (.int c)) (.v x4) (.v (.str value)) (.v (.str wait)) x7 (.v (.bool i)) (.v (.bool f)) (.v (.str [102,97,117,108,116])) (.v (.str s)) (.v (.int m)) (.v (.int w)) (.v (bu a l c))) k) r:=by
 obtain⟨p,hk⟩:=hk
 exact Gv.of (af::af::ae::p) (by kernel_rfl) (aj tF (aj tF (aj tT hk)))
theorem QO{x1 x2:FV}{due:List V}{a l c:Int}{x4:V}{value wait:List Nat}{i f:Bool}{s m:List Nat}{w:Int}{k:Out→aq→au}{r:R}(hk:Gv (k .next (b7 x1 x2 (.own due) (.v (V.int a)) (.v (V.int l)) (.v (V.int c)) (.v x4) (.v (V.str value)) (.v (V.str [])) (.own [(V.str m)]) (.v (V.bool i)) (.v (V.bool (aI w 0))) (.v (V.str [108,105,110,101])) (.v (V.str s)) (.v (V.str m)) (.v (V.int w)) (.v (bu a l c)))) r):Gv (aN cW 59 bC (b7 x1 x2 (.own due) (.v (.int a)) (.v (.int l)) (.v (.int c)) (.v x4) (.v (.str value)) (.v (.str wait)) (.v .none) (.v (.bool i)) (.v (.bool f)) (.v (.str [108,105,110,101])) (.v (.str s)) (.v (.str m)) (.v (.int w)) (.v (bu a l c))) k) r:=by
 obtain⟨p,hk⟩:=hk
 exact Gv.of (af::af::af::af::af::ae::af::p) (by kernel_rfl) (aj tF (aj tF (aj tF (aj tF (aj tF (aj tT (aj tF hk)))))))
theorem QP{x1 x2:FV}{due:List V}{a l c:Int}{x4:V}{value wait:List Nat}{e:List Nat}{es:List V}{i f:Bool}{s m:List Nat}{w:Int}{k:Out→aq→au}{r:R}:∀(h2:(aJ (av (V.str e::es)) aZ)=ae)(h3:(aJ (av (V.str e::es)+av (V.str m::cg)) aZ)=ae)(hk:Gv (k .next (b7 x1 x2 (.own due) (.v (V.int a)) (.v (V.int l)) (.v (V.int c)) (.v x4) (.v (V.str value)) (.v (V.str [])) (.own ((V.str e)::(bp es [(V.str m)]))) (.v (V.bool i)) (.v (V.bool (aI w 0))) (.v (V.str [108,105,110,101])) (.v (V.str s)) (.v (V.str m)) (.v (V.int w)) (.v (bu a l c)))) r),Gv (aN cW 59 bC (b7 x1 x2 (.own due) (.v (.int a)) (.v (.int l)) (.v (.int c)) (.v x4) (.v (.str value)) (.v (.str wait)) (.own (.str e::es)) (.v (.bool i)) (.v (.bool f)) (.v (.str [108,105,110,101])) (.v (.str s)) (.v (.str m)) (.v (.int w)) (.v (bu a l c))) k) r:=
 Gv.to (E:=λ_=>_∧_∧_∧_∧_∧_∧op _ λ_=>_) (λp=>af::af::af::af::af::ae::ae::p) (λ_=>by kernel_rfl) λg h2 h3 hk=>g hk λp hk=>(aj tF (aj tF (aj tF (aj tF (aj tF (aj tT (az (o:=(truth (V.lst ((V.str e)::es)))) (Q:=λy1=>y1=ae∧(tp (aJ (av (V.str e::es)+av (V.str m::cg)) aZ) (k .next (b7 x1 x2 (.own due) (.v (V.int a)) (.v (V.int l)) (.v (V.int c)) (.v x4) (.v (V.str value)) (.v (V.str [])) (.own ((V.str e)::(bp es [(V.str m)]))) (.v (V.bool i)) (.v (V.bool (aI w 0))) (.v (V.str [108,105,110,101])) (.v (V.str s)) (.v (V.str m)) (.v (V.int w)) (.v (bu a l c))) p r))) (ez h2 rfl) (aj rfl (aM h3 hk)))))))))
theorem QQ{x1 x2:FV}{due:List V}{a l c:Int}{x4:V}{value wait:List Nat}{e:List Nat}{es:List V}{i f:Bool}{s m:List Nat}{w:Int}{k:Out→aq→au}{r:R}:∀(h2:(aJ (av (V.str e::es)) aZ)=ae)(h3:(aJ (av (V.str e::es)+av (V.str m::cg)) aZ)=ae)(hk:Gv (k .next (b7 x1 x2 (.own due) (.v (V.int a)) (.v (V.int l)) (.v (V.int c)) (.v x4) (.v (V.str value)) (.v (V.str [])) (.own ((V.str e)::(bp es [(V.str m)]))) (.v (V.bool i)) (.v (V.bool (aI w 0))) (.v (V.str [108,105,110,101])) (.v (V.str s)) (.v (V.str m)) (.v (V.int w)) (.v (bu a l c)))) r),Gv (aN cW 59 bC (b7 x1 x2 (.own due) (.v (.int a)) (.v (.int l)) (.v (.int c)) (.v x4) (.v (.str value)) (.v (.str wait)) (.v (.lst (.str e::es))) (.v (.bool i)) (.v (.bool f)) (.v (.str [108,105,110,101])) (.v (.str s)) (.v (.str m)) (.v (.int w)) (.v (bu a l c))) k) r:=
 Gv.to (E:=λ_=>_∧_∧_∧_∧_∧_∧op _ λ_=>_) (λp=>af::af::af::af::af::ae::ae::p) (λ_=>by kernel_rfl) λg h2 h3 hk=>g hk λp hk=>(aj tF (aj tF (aj tF (aj tF (aj tF (aj tT (az (o:=(truth (V.lst ((V.str e)::es)))) (Q:=λy1=>y1=ae∧(tp (aJ (av (V.str e::es)+av (V.str m::cg)) aZ) (k .next (b7 x1 x2 (.own due) (.v (V.int a)) (.v (V.int l)) (.v (V.int c)) (.v x4) (.v (V.str value)) (.v (V.str [])) (.own ((V.str e)::(bp es [(V.str m)]))) (.v (V.bool i)) (.v (V.bool (aI w 0))) (.v (V.str [108,105,110,101])) (.v (V.str s)) (.v (V.str m)) (.v (V.int w)) (.v (bu a l c))) p r))) (ez h2 rfl) (aj rfl (aM h3 hk)))))))))
theorem ad9{x1:FV}{t kd q:List Nat}{due:List V}{a l c:Int}{x4:V}{value wait:List Nat}{x7:FV}{i f:Bool}{s m:List Nat}{w:Int}{k:Out→aq→au}(h1:f=ae){y2:Bool}(h3:(oB (lW s (V.str [45,45,45]::V.str [46,46,46]::cg)))=ag y2)(h4:y2=ae)(h6:(fy ae (V.str t) (ag (V.int (a+3))) (ag (V.int (a+4))))=ag (V.str q)){y7:Bool}(h8:(oB (kf q [32,9,13,10,133,8232,8233]))=ag y7)(h9:y7=ae){r:R}(hk:Gv (k (.ret (V.tup [(V.lst due),(V.tup [x4,(bu a l c)])])) (b7 x1 (.v (V.str t)) (.v (V.lst due)) (.v (V.int a)) (.v (V.int l)) (.v (V.int c)) (.v x4) (.v (V.str value)) (.v (V.str wait)) x7 (.v (V.bool i)) (.v (V.bool f)) (.v (V.str kd)) (.v (V.str s)) (.v (V.str m)) (.v (V.int w)) (.v (bu a l c)))) r):Gv (aN cW 45 mI (b7 x1 (.v (.str t)) (.own due) (.v (.int a)) (.v (.int l)) (.v (.int c)) (.v x4) (.v (.str value)) (.v (.str wait)) x7 (.v (.bool i)) (.v (.bool f)) (.v (.str kd)) (.v (.str s)) (.v (.str m)) (.v (.int w)) (.v (bu a l c))) k) r:=by
 obtain⟨p,hk⟩:=hk
 exact Gv.of (ae::ae::ae::ae::p) (E:=(f=ae∧(op (oB (lW s (V.str [45,45,45]::V.str [46,46,46]::cg))) λy2:Bool=>(y2=ae∧(op (fy ae (V.str t) (ag (V.int (a+3))) (ag (V.int (a+4)))) λy5:V=>(op (ob (ob (V.s? y5) λx=>oV (kf x [32,9,13,10,133,8232,8233])) V.b?) λy7:Bool=>(y7=ae∧(ae=ae∧(k (.ret (V.tup [(V.lst due),(V.tup [x4,(bu a l c)])])) (b7 x1 (.v (V.str t)) (.v (V.lst due)) (.v (V.int a)) (.v (V.int l)) (.v (V.int c)) (.v x4) (.v (V.str value)) (.v (V.str wait)) x7 (.v (V.bool i)) (.v (V.bool f)) (.v (V.str kd)) (.v (V.str s)) (.v (V.str m)) (.v (V.int w)) (.v (bu a l c))) p r))))))))) (by kernel_rfl) (⟨h1,(az (by exact h3) ⟨h4,(az (by exact h6) (az (by exact h8) ⟨h9,⟨rfl,hk⟩⟩))⟩)⟩)
theorem ad4{x1:FV}{t kd q:List Nat}{due:List V}{a l c:Int}{x4:V}{value wait:List Nat}{x7:FV}{i f:Bool}{s m:List Nat}{w:Int}{k:Out→aq→au}(h1:f=ae){y2:Bool}(h3:(oB (lW s (V.str [45,45,45]::V.str [46,46,46]::cg)))=ag y2)(h4:y2=ae)(h6:(fy ae (V.str t) (ag (V.int (a+3))) (ag (V.int (a+4))))=ag (V.str q)){y7:Bool}(h8:(oB (kf q [32,9,13,10,133,8232,8233]))=ag y7)(h9:y7=af){r:R}(hk:Gv (k .next (b7 x1 (.v (V.str t)) (.own due) (.v (V.int a)) (.v (V.int l)) (.v (V.int c)) (.v x4) (.v (V.str value)) (.v (V.str wait)) x7 (.v (V.bool i)) (.v (V.bool f)) (.v (V.str kd)) (.v (V.str s)) (.v (V.str m)) (.v (V.int w)) (.v (bu a l c)))) r):Gv (aN cW 45 mI (b7 x1 (.v (.str t)) (.own due) (.v (.int a)) (.v (.int l)) (.v (.int c)) (.v x4) (.v (.str value)) (.v (.str wait)) x7 (.v (.bool i)) (.v (.bool f)) (.v (.str kd)) (.v (.str s)) (.v (.str m)) (.v (.int w)) (.v (bu a l c))) k) r:=by
 obtain⟨p,hk⟩:=hk
 exact Gv.of (ae::ae::af::af::p) (E:=(f=ae∧(op (oB (lW s (V.str [45,45,45]::V.str [46,46,46]::cg))) λy2:Bool=>(y2=ae∧(op (fy ae (V.str t) (ag (V.int (a+3))) (ag (V.int (a+4)))) λy5:V=>(op (ob (ob (V.s? y5) λx=>oV (kf x [32,9,13,10,133,8232,8233])) V.b?) λy7:Bool=>(y7=af∧(af=af∧(k .next (b7 x1 (.v (V.str t)) (.own due) (.v (V.int a)) (.v (V.int l)) (.v (V.int c)) (.v x4) (.v (V.str value)) (.v (V.str wait)) x7 (.v (V.bool i)) (.v (V.bool f)) (.v (V.str kd)) (.v (V.str s)) (.v (V.str m)) (.v (V.int w)) (.v (bu a l c))) p r))))))))) (by kernel_rfl) (⟨h1,(az (by exact h3) ⟨h4,(az (by exact h6) (az (by exact h8) ⟨h9,⟨rfl,hk⟩⟩))⟩)⟩)
theorem ad5{x1:FV}{t kd:List Nat}{due:List V}{a l c:Int}{x4:V}{value wait:List Nat}{x7:FV}{i f:Bool}{s m:List Nat}{w:Int}{k:Out→aq→au}{r:R}:∀(h1:f=ae)⦃y2⦄(h3:(oB (lW s (V.str [45,45,45]::V.str [46,46,46]::cg)))=ag y2)(h4:y2=af)(hk:Gv (k .next (b7 x1 (.v (V.str t)) (.own due) (.v (V.int a)) (.v (V.int l)) (.v (V.int c)) (.v x4) (.v (V.str value)) (.v (V.str wait)) x7 (.v (V.bool i)) (.v (V.bool f)) (.v (V.str kd)) (.v (V.str s)) (.v (V.str m)) (.v (V.int w)) (.v (bu a l c)))) r),Gv (aN cW 45 mI (b7 x1 (.v (.str t)) (.own due) (.v (.int a)) (.v (.int l)) (.v (.int c)) (.v x4) (.v (.str value)) (.v (.str wait)) x7 (.v (.bool i)) (.v (.bool f)) (.v (.str kd)) (.v (.str s)) (.v (.str m)) (.v (.int w)) (.v (bu a l c))) k) r:=
 Gv.to (E:=λ_=>_∧op _ λ_=>_) (λp=>ae::af::af::p) (λ_=>by kernel_rfl) λg h1 y2 h3 h4 hk=>g hk λp hk=>(aj h1 (az h3 (aj h4 (aj tF hk))))
theorem ad6{x1:FV}{t kd:List Nat}{due:List V}{a l c:Int}{x4:V}{value wait:List Nat}{x7:FV}{i f:Bool}{s m:List Nat}{w:Int}{k:Out→aq→au}(h1:f=af){r:R}(hk:Gv (k .next (b7 x1 (.v (V.str t)) (.own due) (.v (V.int a)) (.v (V.int l)) (.v (V.int c)) (.v x4) (.v (V.str value)) (.v (V.str wait)) x7 (.v (V.bool i)) (.v (V.bool f)) (.v (V.str kd)) (.v (V.str s)) (.v (V.str m)) (.v (V.int w)) (.v (bu a l c)))) r):Gv (aN cW 45 mI (b7 x1 (.v (.str t)) (.own due) (.v (.int a)) (.v (.int l)) (.v (.int c)) (.v x4) (.v (.str value)) (.v (.str wait)) x7 (.v (.bool i)) (.v (.bool f)) (.v (.str kd)) (.v (.str s)) (.v (.str m)) (.v (.int w)) (.v (bu a l c))) k) r:=by
 obtain⟨p,hk⟩:=hk
 exact Gv.of (af::af::p) (by kernel_rfl) (aj h1 (aj tF hk))
theorem aeb{x1 x2:FV}{due:List V}{a l c:Int}{x4:V}{value wait:List Nat}{kd:List Nat}{i f:Bool}{s m:List Nat}{w:Int}{k:Out→aq→au}(h1:(aJ (av value+av wait) 16777216)=ae)(h2:(aJ (av (bp value wait)+av m) 16777216)=ae){r:R}(hk:Gv (k .next (b7 x1 x2 (.own due) (.v (V.int a)) (.v (V.int l)) (.v (V.int c)) (.v x4) (.v (V.str (bp (bp value wait) m))) (.v (V.str wait)) (.v V.none) (.v (V.bool i)) (.v (V.bool f)) (.v (V.str kd)) (.v (V.str s)) (.v (V.str m)) (.v (V.int w)) (.v (bu a l c)))) r):Gv (aN cW 44 oI (b7 x1 x2 (.own due) (.v (.int a)) (.v (.int l)) (.v (.int c)) (.v x4) (.v (.str value)) (.v (.str wait)) (.v .none) (.v (.bool i)) (.v (.bool f)) (.v (.str kd)) (.v (.str s)) (.v (.str m)) (.v (.int w)) (.v (bu a l c))) k) r:=by
 obtain⟨p,hk⟩:=hk
 exact Gv.of (ae::p) (by kernel_rfl) (aj tT (aM h1 (aM h2 hk)))
theorem aec{x1 x2:FV}{due:List V}{a l c:Int}{x4:V}{value wait:List Nat}{e:List Nat}{es:List V}{kd:List Nat}{i f:Bool}{s m:List Nat}{w:Int}{k:Out→aq→au}{r:R}:∀⦃a1⦄(h2:(Folds [(V.lst ((V.str e)::es))] a1))(h3:(aJ (av value+av a1) 16777216)=ae)(h4:(aJ (av (bp value a1)+av m) 16777216)=ae)(hk:Gv (k .next (b7 x1 x2 (.own due) (.v (V.int a)) (.v (V.int l)) (.v (V.int c)) (.v x4) (.v (V.str (bp (bp value a1) m))) (.v (V.str wait)) (.v (V.lst ((V.str e)::es))) (.v (V.bool i)) (.v (V.bool f)) (.v (V.str kd)) (.v (V.str s)) (.v (V.str m)) (.v (V.int w)) (.v (bu a l c)))) r),Gv (aN cW 44 oI (b7 x1 x2 (.own due) (.v (.int a)) (.v (.int l)) (.v (.int c)) (.v x4) (.v (.str value)) (.v (.str wait)) (.own (.str e::es)) (.v (.bool i)) (.v (.bool f)) (.v (.str kd)) (.v (.str s)) (.v (.str m)) (.v (.int w)) (.v (bu a l c))) k) r:=
 Gv.to (E:=λ_=>_∧∃_,_) (λp=>af::p) (λ_=>by kernel_rfl) λg a1 h2 h3 h4 hk=>g hk λp hk=>(aj tF (aC a1 (aj h2 (aM h3 (aM h4 hk)))))
theorem aed{x1 x2:FV}{due:List V}{a l c:Int}{x4:V}{value wait:List Nat}{e:List Nat}{es:List V}{kd:List Nat}{i f:Bool}{s m:List Nat}{w:Int}{k:Out→aq→au}{r:R}:∀⦃a1⦄(h2:(Folds [(V.lst ((V.str e)::es))] a1))(h3:(aJ (av value+av a1) 16777216)=ae)(h4:(aJ (av (bp value a1)+av m) 16777216)=ae)(hk:Gv (k .next (b7 x1 x2 (.own due) (.v (V.int a)) (.v (V.int l)) (.v (V.int c)) (.v x4) (.v (V.str (bp (bp value a1) m))) (.v (V.str wait)) (.v (V.lst ((V.str e)::es))) (.v (V.bool i)) (.v (V.bool f)) (.v (V.str kd)) (.v (V.str s)) (.v (V.str m)) (.v (V.int w)) (.v (bu a l c)))) r),Gv (aN cW 44 oI (b7 x1 x2 (.own due) (.v (.int a)) (.v (.int l)) (.v (.int c)) (.v x4) (.v (.str value)) (.v (.str wait)) (.v (.lst (.str e::es))) (.v (.bool i)) (.v (.bool f)) (.v (.str kd)) (.v (.str s)) (.v (.str m)) (.v (.int w)) (.v (bu a l c))) k) r:=
 Gv.to (E:=λ_=>_∧∃_,_) (λp=>af::p) (λ_=>by kernel_rfl) λg a1 h2 h3 h4 hk=>g hk λp hk=>(aj tF (aC a1 (aj h2 (aM h3 (aM h4 hk)))))
theorem aeg{x1 x2:FV}{due:List V}{a l c:Int}{x4:V}{value wait:List Nat}{x7:FV}{i f:Bool}{s m:List Nat}{w:Int}{k:Out→aq→au}{r:R}(hk:Gv (k .next (b7 x1 x2 (.own due) (.v (V.int a)) (.v (V.int l)) (.v (V.int c)) (.v x4) (.v (V.str value)) (.v (V.str [])) (.v V.none) (.v (V.bool i)) (.v (V.bool af)) (.v (V.str [119,111,114,100])) (.v (V.str s)) (.v (V.str m)) (.v (V.int w)) (.v (bu a l c)))) r):Gv (aN cW 43 oJ (b7 x1 x2 (.own due) (.v (.int a)) (.v (.int l)) (.v (.int c)) (.v x4) (.v (.str value)) (.v (.str wait)) x7 (.v (.bool i)) (.v (.bool f)) (.v (.str [119,111,114,100])) (.v (.str s)) (.v (.str m)) (.v (.int w)) (.v (bu a l c))) k) r:=by
 obtain⟨p,hk⟩:=hk
 exact Gv.of (af::ae::af::p) (by kernel_rfl) (aj tF (aj tT (aj tF hk)))
theorem aee{x1 x2:FV}{due:List V}{a l c:Int}{x4:V}{value wait:List Nat}{x7:FV}{i f:Bool}{s m:List Nat}{w:Int}{k:Out→aq→au}{r:R}(hk:Gv (k .next (b7 x1 x2 (.own due) (.v (V.int a)) (.v (V.int l)) (.v (V.int c)) (.v x4) (.v (V.str value)) (.v (V.str [])) (.v (V.lst [(V.str [])])) (.v (V.bool i)) (.v (V.bool (aI w 0))) (.v (V.str [98,101,110,116])) (.v (V.str s)) (.v (V.str m)) (.v (V.int w)) (.v (bu a l c)))) r):Gv (aN cW 43 oJ (b7 x1 x2 (.own due) (.v (.int a)) (.v (.int l)) (.v (.int c)) (.v x4) (.v (.str value)) (.v (.str wait)) x7 (.v (.bool i)) (.v (.bool f)) (.v (.str [98,101,110,116])) (.v (.str s)) (.v (.str m)) (.v (.int w)) (.v (bu a l c))) k) r:=by
 obtain⟨p,hk⟩:=hk
 exact Gv.of (ae::af::af::p) (by kernel_rfl) (aj tT (aj tF (aj tF hk)))
theorem aef{x1 x2:FV}{due:List V}{a l c:Int}{x4:V}{value wait:List Nat}{x7:FV}{i f:Bool}{s m:List Nat}{w:Int}{k:Out→aq→au}(h1:(aJ (av due) aZ)=ae){r:R}(hk:Gv (k .next (b7 x1 x2 (.own (bp due [(V.tup [(V.str (sL "<scalar>")),(V.tup [(V.str value),(V.bool af),(V.str s)]),x4,(V.tup [(V.int (a+1)),(V.int l),(V.int (c+1))])])])) (.v (V.int a)) (.v (V.int l)) (.v (V.int c)) (.v x4) (.v (V.str value)) (.v (V.str [])) (.v V.none) (.v (V.bool af)) (.v (V.bool af)) (.v (V.str (sL "close"))) (.v (V.str s)) (.v (V.str m)) (.v (V.int w)) (.v (bu a l c)))) r):Gv (aN cW 43 oJ (b7 x1 x2 (.own due) (.v (.int a)) (.v (.int l)) (.v (.int c)) (.v x4) (.v (.str value)) (.v (.str wait)) x7 (.v (.bool i)) (.v (.bool f)) (.v (.str [99,108,111,115,101])) (.v (.str s)) (.v (.str m)) (.v (.int w)) (.v (bu a l c))) k) r:=by
 obtain⟨p,hk⟩:=hk
 exact Gv.of (af::ae::ae::p) (by kernel_rfl) (aj tF (aj tT (aj tT (aM h1 hk))))
theorem FL{x1 x2:FV}{kd:List Nat}{mm:FV}{due:List V}{a l c:Int}{x4:V}{value wait:List Nat}{x7:FV}{i f:Bool}{s:List Nat}{w:Int}(h1:(aB kd [108,105,110,101])=ae){r:R}(hr:r=(.next,(b7 x1 x2 (.own due) (.v (V.int (a+ ↑(av s)))) (.v (V.int (l+1))) (.v (V.int w)) (.v x4) (.v (V.str value)) (.v (V.str wait)) x7 (.v (V.bool i)) (.v (V.bool f)) (.v (V.str kd)) (.v (V.str s)) mm (.v (V.int w)) (.v (bu a l c))))):Gv (aN cW 58 bT (b7 x1 x2 (.own due) (.v (.int a)) (.v (.int l)) (.v (.int c)) (.v x4) (.v (.str value)) (.v (.str wait)) x7 (.v (.bool i)) (.v (.bool f)) (.v (.str kd)) (.v (.str s)) mm (.v (.int w)) (.v (bu a l c))) pk) r:=
 Gv.of (ae::ae::[]) (by kernel_rfl) (aj h1 (aj tT hr))
theorem adD{x1 x2:FV}{kd:List Nat}{mm:FV}{due:List V}{a l c:Int}{x4:V}{value wait:List Nat}{x7:FV}{i f:Bool}{s:List Nat}{w:Int}(h1:(aB kd [108,105,110,101])=af)(h2:(aB kd [98,101,110,116])=ae){r:R}(hr:r=(.next,(b7 x1 x2 (.own due) (.v (V.int (a+ ↑(av s)))) (.v (V.int (l+1))) (.v (V.int w)) (.v x4) (.v (V.str value)) (.v (V.str wait)) x7 (.v (V.bool i)) (.v (V.bool f)) (.v (V.str kd)) (.v (V.str s)) mm (.v (V.int w)) (.v (bu a l c))))):Gv (aN cW 58 bT (b7 x1 x2 (.own due) (.v (.int a)) (.v (.int l)) (.v (.int c)) (.v x4) (.v (.str value)) (.v (.str wait)) x7 (.v (.bool i)) (.v (.bool f)) (.v (.str kd)) (.v (.str s)) mm (.v (.int w)) (.v (bu a l c))) pk) r:=
 Gv.of (af::ae::ae::[]) (by kernel_rfl) (aj h1 (aj h2 (aj tT hr)))
theorem adE{x1 x2:FV}{kd:List Nat}{mm:FV}{due:List V}{a l c:Int}{x4:V}{value wait:List Nat}{x7:FV}{i f:Bool}{s:List Nat}{w:Int}(h1:(aB kd [108,105,110,101])=af)(h2:(aB kd [98,101,110,116])=af)(h3:(aB kd [110,101,120,116])=ae){r:R}(hr:r=(.next,(b7 x1 x2 (.own due) (.v (V.int (a+ ↑(av s)))) (.v (V.int (l+1))) (.v (V.int w)) (.v x4) (.v (V.str value)) (.v (V.str wait)) x7 (.v (V.bool i)) (.v (V.bool f)) (.v (V.str kd)) (.v (V.str s)) mm (.v (V.int w)) (.v (bu a l c))))):Gv (aN cW 58 bT (b7 x1 x2 (.own due) (.v (.int a)) (.v (.int l)) (.v (.int c)) (.v x4) (.v (.str value)) (.v (.str wait)) x7 (.v (.bool i)) (.v (.bool f)) (.v (.str kd)) (.v (.str s)) mm (.v (.int w)) (.v (bu a l c))) pk) r:=
 Gv.of (af::af::ae::ae::[]) (by kernel_rfl) (aj h1 (aj h2 (aj h3 (aj tT hr))))
theorem tl{x1 x2:FV}{kd:List Nat}{mm:FV}{due:List V}{a l c:Int}{x4:V}{value wait:List Nat}{x7:FV}{i f:Bool}{s:List Nat}{w:Int}(h1:(aB kd [108,105,110,101])=af)(h2:(aB kd [98,101,110,116])=af)(h3:(aB kd [110,101,120,116])=af){r:R}(hr:r=(.next,(b7 x1 x2 (.own due) (.v (V.int (a+ ↑(av s)))) (.v (V.int l)) (.v (V.int (c+w))) (.v x4) (.v (V.str value)) (.v (V.str wait)) x7 (.v (V.bool i)) (.v (V.bool f)) (.v (V.str kd)) (.v (V.str s)) mm (.v (V.int w)) (.v (bu a l c))))):Gv (aN cW 58 bT (b7 x1 x2 (.own due) (.v (.int a)) (.v (.int l)) (.v (.int c)) (.v x4) (.v (.str value)) (.v (.str wait)) x7 (.v (.bool i)) (.v (.bool f)) (.v (.str kd)) (.v (.str s)) mm (.v (.int w)) (.v (bu a l c))) pk) r:=
 Gv.of (af::af::af::af::[]) (by kernel_rfl) (aj h1 (aj h2 (aj h3 (aj tF hr))))
structure Lr where
 due:List V
 a:Nat
 l:Nat
 c:Nat
 start:V
 value:List Nat
 wait:List Nat
 ends:Option (List (List Nat))
 ins:Bool
 fresh:Bool
noncomputable def d9(id:List Nat)(v a b:V):V:=.tup [.str id,v,a,b]
noncomputable def yB:List Nat:=[60,98,108,111,99,107,32,115,101,113,117,101,110,99,101,32,115,116,97,114,116,62]
noncomputable def sX:List Nat:=[60,115,99,97,108,97,114,62]
noncomputable def jt(src:List Nat):Bool:=aB [45,45,45] src||aB [46,46,46] src
noncomputable def lO(text:List Nat)(a:Nat):List Nat:=(text.take (a+4)).drop (a+3)
noncomputable def Ag:List Nat:=[32,9,13,10,133,8232,8233]
noncomputable def kK(text:List Nat)(a:Nat):Bool:=cv (lO text a) ae λc _=>Ag.contains c
noncomputable def refuse(due:List V)(start at_:V):Lr⊕V:=.inr (.tup [.lst due,.tup [start,at_]])
namespace Lr
noncomputable def here(s:Lr):V:=bu s.a s.l s.c
noncomputable def held(s:Lr):List Nat:=pO s.ends s.wait foldOf
noncomputable def f7(text:List Nat)(p:Pc)(s:Lr):Bool:=s.fresh&&(jt p.src&&kK text s.a)
noncomputable def mv(p:Pc)(s:Lr):Lr:=⟨s.due,s.a+p.src.length,s.l,s.c+p.cols,s.start,s.value,s.wait,s.ends,s.ins,s.fresh⟩
noncomputable def nl(p:Pc)(s:Lr):Lr:=⟨s.due,s.a+p.src.length,s.l+1,p.cols,s.start,s.value,s.wait,s.ends,s.ins,s.fresh⟩
noncomputable def val(p:Pc)(s:Lr):List Nat:=(s.value++s.held)++p.mean
noncomputable def put(p:Pc)(e:Option (List (List Nat)))(f:Bool)(s:Lr):Lr:=⟨s.due,s.a,s.l,s.c,s.start,s.val p,[],e,s.ins,f⟩
noncomputable def uJ(s:Lr):Lr:=⟨s.due,s.a,s.l,s.c,s.here,[],[],bg,ae,af⟩
noncomputable def Bp(p:Pc)(s:Lr):Lr:=⟨s.due,s.a,s.l,s.c,s.start,s.value,s.wait++p.src,s.ends,s.ins,af⟩
noncomputable def cI(p:Pc)(s:Lr):Lr:=⟨s.due,s.a,s.l,s.c,s.start,s.value,[],ag (s.ends.getD []++[p.mean]),s.ins,aI p.cols 0⟩
noncomputable def oO(s:Lr):Lr:=⟨br (aI (s.due.length:Nat) 1) (s.due++[d9 yB .none s.here s.here]) s.due++[d9 [45] .none s.here (bu (s.a+1:Nat) s.l (s.c+1:Nat))],s.a,s.l,s.c,s.start,s.value,s.wait,s.ends,s.ins,s.fresh⟩
noncomputable def cls(p:Pc)(s:Lr):Lr:=⟨s.due++[d9 sX (.tup [.str (s.val p),.bool af,.str p.src]) s.start (bu (s.a+1:Nat) s.l (s.c+1:Nat))],s.a,s.l,s.c,s.start,s.val p,[],bg,af,af⟩
noncomputable def or(text:List Nat)(p:Pc)(s s' :Lr):Lr⊕V:=br (s.f7 text p) (refuse s.due s.start s.here) (.inl s')
noncomputable def step(text:List Nat)(p:Pc)(s:Lr):Lr⊕V:=Kd.casesOn p.kd (.inl (s.mv p)) (.inl (s.oO.mv p)) (.inl (s.uJ.mv p)) (s.or text p ((s.put p bg af).mv p)) (.inl ((s.Bp p).mv p)) (.inl ((s.cI p).nl p)) (s.or text p ((s.put p (ag [[]]) (aI p.cols 0)).nl p))
 (refuse s.due s.start (bu (s.a+p.ahead:Nat) s.l (s.c+p.ahead:Nat))) (refuse s.due s.start (bu (s.a+1:Nat) (s.l+1:Nat) 0)) (s.or text p ((s.cls p).mv p)) (.inl (s.nl p))
noncomputable def at_(rv:FV)(text:List Nat)(s:Lr)(e y1 y2 y3 y4 y5:FV):aq:=b7 rv (.v (.str text)) (.own s.due) (.v (.int (s.a:Nat))) (.v (.int (s.l:Nat))) (.v (.int (s.c:Nat))) (.v s.start) (.v (.str s.value)) (.v (.str s.wait)) e (.v (.bool s.ins)) (.v (.bool s.fresh)) y1 y2 y3 y4 y5
noncomputable def df(rv:FV)(text:List Nat)(s:Lr)(e:FV):aq:=Kn rv (.v (.str text)) (.own s.due) (.v (.int (s.a:Nat))) (.v (.int (s.l:Nat))) (.v (.int (s.c:Nat))) (.v s.start) (.v (.str s.value)) (.v (.str s.wait)) e (.v (.bool s.ins)) (.v (.bool s.fresh))
end Lr
inductive iO:Option (List (List Nat))→FV→Prop where
 |none:iO bg (.v .none)
 |own (e:List Nat) (es:List (List Nat)):iO (ag (e::es)) (.own (.str e::cn es))
 |lst (e:List Nat) (es:List (List Nat)):iO (ag (e::es)) (.v (.lst (.str e::cn es)))
inductive sa(rv:FV)(text:List Nat)(s:Lr):aq→Prop where
 |z (e:FV) (h:iO s.ends e):sa rv text s (s.df rv text e)
 |t (e y1 y2 y3 y4 y5:FV) (h:iO s.ends e):sa rv text s (s.at_ rv text e y1 y2 y3 y4 y5)
inductive jf(rv:FV)(text:List Nat)(t:au):Lr⊕V→Prop where
 |go {s:Lr} {e y1 y2 y3 y4 y5:FV} (h:iO s.ends e) (g:Gv t (.next,s.at_ rv text e y1 y2 y3 y4 y5)):jf rv text t (.inl s)
 |out (v:V) (st:aq) (h:st.self=bg) (f:st.free=af) (g:Gv t (.ret v,st)):jf rv text t (.inr v)
noncomputable def oP(e:Option (List (List Nat))):Nat:=pO e 0 λl=>l.length+l.flatten.length
inductive Lr.kF(s:Lr)(n:Nat):Prop
 |mk (d:s.due.length≤2*n+1) (h:s.value.length+s.wait.length+oP s.ends≤20*n)
inductive Pc.Small(p:Pc):Prop
 |mk (a:p.src.length≤16) (b:p.mean.length≤16)
noncomputable def Pc.third(p:Pc):V:=br p.kd.nf (.int (p.ahead:Nat)) (.str p.mean)
noncomputable def mid(rv:FV)(text:List Nat)(s:Lr)(e:FV)(p:Pc):aq:=s.at_ rv text e (.v (.str p.kd.nm)) (.v (.str p.src)) (.v p.third) (.v (.int (p.cols:Nat))) (.v s.here)
theorem KN{rv:FV}{text:List Nat}{s:Lr}{st:aq}{p:Pc}(H:sa rv text s st):∃e,iO s.ends e∧∀r,Gv (aN cW 59 bC (mid rv text s e p) (pZ cW 58 bT pk)) r→Gv (q_ p.v st) r:=by
 have B:bR=bC++bT:=by kernel_rfl
 have L:59=bC.length+1+57:=by kernel_rfl
 induction H with
 |z e h=>exact⟨e,h,λr g=>X4 _ _ _ _ _ _ _ _ _ _ _ _ _ _ _ _ (jn B L g)⟩
 |t e y1 y2 y3 y4 y5 h=>exact⟨e,h,λr g=>X5 _ _ _ _ _ _ _ _ _ _ _ _ _ _ _ _ _ _ _ _ _ (jn B L g)⟩
def jY(G:aX)(n:Nat)(k:Out→aq→au):Out→aq→au:=λo st=>tJ o (aN G n [] st k) λo=>k o st
theorem mq(G:aX)(n:Nat)(k:Out→aq→au):jY G (n+1) k=k:=by
 funext o st;cases o<;>rfl
theorem aaq(G:aX)(k:Out→aq→au):jY G 46 (jY G 48 (jY G 50 (jY G 52 (jY G 54 (jY G 56 (jY G 58 k))))))=k:=by
 rw[mq,mq,mq,mq,mq,mq,mq]
def Li:List Bool→Prop→Prop
 | [],E=>E
 |b::l,E=>b=b∧Li l E
theorem Lj{E:Prop}(h:E):∀l,Li l E
 | []=>h
 |b::l=>⟨rfl,Lj h l⟩
noncomputable def b6(l:List Bool):List Bool:=af::af::af::af::af::af::l
section
variable{rv:FV}{text:List Nat}{s:Lr}{e:FV}{kd:Kd}{p:Pc}{k:Out→aq→au}{r:R}
noncomputable def aeh(kd:Kd):List Bool:=Kd.casesOn kd [] [] [] (b6 [ae,ae]) [] [] (b6 [af,ae,ae]) [] [] (b6 [af,af,ae,ae]) []
noncomputable def Kd.Dx(kd:Kd):Bool:=Kd.casesOn kd af af af ae af af ae af af ae af
theorem NH(hp:p.kd.Dx=ae)(h:Gv (aN cW 45 bW (mid rv text s e p) k) r):Gv (aN cW 59 bC (mid rv text s e p) k) r:=by
 obtain⟨kd,src,mean,ah,cols⟩:=p
 rw[←aaq cW k]at h
 obtain⟨q,h⟩:=h
 have h:=Lj h (aeh kd)
 cases kd with
 |word=>exact Gv.of (b6 [ae,ae]++q) (by kernel_rfl) h
 |eD=>exact Gv.of (b6 [af,ae,ae]++q) (by kernel_rfl) h
 |close=>exact Gv.of (b6 [af,af,ae,ae]++q) (by kernel_rfl) h
 |_=>cases hp
theorem Dt(src:List Nat):lW src [.str [45,45,45],.str [46,46,46]]=ag (jt src):=by
 show ag (br (aB [45,45,45] src) ae (br (aB [46,46,46] src) ae af))=_
 unfold jt
 cases aB [45,45,45] src<;>cases aB [46,46,46] src<;>rfl
theorem JH(text:List Nat)(a:Nat):kf (lO text a) Ag=ag (kK text a):=by
 have h:(lO text a).length≤1:=by unfold lO;rw[List.length_drop,zz];exact Nat.sub_le_of_le_add (aL (Nat.min_le_left _ _) (pP (by rw[kq 1,eL])))
 unfold kK
 generalize lO text a=l at h
 cases l with
 |nil=>rfl
 |cons x l=>cases l with
  |nil=>rfl
  |cons y l=>exact absurd (ED h) (wm _)
theorem ad7(ha:p.kd.nf=af)(h:s.f7 text p=af)(g:Gv (k .next (mid rv text s e p)) r):Gv (aN cW 45 mI (mid rv text s e p) k) r:=by
 have e3:p.third=.str p.mean:=by unfold Pc.third;rw[ha];rfl
 unfold mid at g⊢
 rw[e3]at g⊢
 cases hf:s.fresh with
 |false=>exact ad6 hf g
 |true=>
  unfold Lr.f7 at h
  rw[hf]at h
  cases hs:jt p.src with
  |false=>exact ad5 hf (y2:=af) (by rw[Dt,hs];rfl) rfl g
  |true=>
   rw[hs]at h
   exact ad4 hf (y2:=ae) (by rw[Dt,hs];rfl) rfl (q:=lO text s.a) rfl (y7:=af) (by rw[show kf (lO text s.a) [32,9,13,10,133,8232,8233]=ag (kK text s.a)from JH text s.a,show kK text s.a=af from h];rfl) rfl g
theorem ad8(ha:p.kd.nf=af)(h:s.f7 text p=ae):∃st:aq,st.self=bg∧st.free=af∧∀{k r},Gv (k (.ret (.tup [.lst s.due,.tup [s.start,s.here]])) st) r→Gv (aN cW 45 mI (mid rv text s e p) k) r:=by
 have e3:p.third=.str p.mean:=by unfold Pc.third;rw[ha];rfl
 obtain⟨h1,h2⟩:=aF h
 obtain⟨h2,h3⟩:=aF h2
 unfold mid
 rw[e3]
 exact⟨_,rfl,rfl,λg=>ad9 h1 (y2:=ae) (by rw[Dt,h2];rfl) rfl (q:=lO text s.a) rfl (y7:=ae) (by rw[show kf (lO text s.a) [32,9,13,10,133,8232,8233]=ag (kK text s.a)from JH text s.a,h3];rfl) rfl g⟩
noncomputable def Lr.v2(p:Pc)(s:Lr):Lr:=⟨s.due,s.a,s.l,s.c,s.start,s.val p,s.wait,s.ends,s.ins,s.fresh⟩
theorem aew{b:Bool}{x y n:Nat}(h:x≤n)(g:y≤n):br b x y≤n:=by cases b<;>assumption
theorem aak(t:List Nat):(rB t).length≤t.length+1:=by
 cases t with
 |nil=>exact eF _
 |cons=>exact pQ _
theorem T1(l:List (List Nat)):(foldOf l).length≤l.flatten.length+1:=by
 cases l with
 |nil=>exact gx _
 |cons x r=>
  show(br (aB x [10]) (rB r.flatten) (x++r.flatten)).length≤_
  rw[zv]
  cases aB x [10]with
  |true=>exact aL (aak _) (jy (by rw[bE];exact cF _ _))
  |false=>exact pQ _
theorem Jk(s:Lr):s.held.length≤s.wait.length+oP s.ends+1:=by
 unfold Lr.held
 cases s.ends with
 |none=>exact pQ _
 |some l=>exact aL (T1 l) (jy (aL (cF _ _) (cF _ _)))
theorem aea{n:Nat}(ha:p.kd.nf=af)(E:iO s.ends e)(F:s.kF n)(hn:n≤45)(P:p.Small):∃e',iO s.ends e' ∧∀{k r},Gv (k .next (mid rv text (s.v2 p) e' p)) r→Gv (aN cW 44 oI (mid rv text s e p) k) r:=by
 have e3:p.third=.str p.mean:=by unfold Pc.third;rw[ha];rfl
 obtain⟨_,F⟩:=F
 obtain⟨_,P⟩:=P
 have F:s.value.length+s.wait.length+oP s.ends≤900:=aL F (nH 20 hn)
 have hl:=Jk s
 have b1:aJ (s.value.length+s.held.length) 16777216=ae:=zN (by omega)
 have b2:aJ ((s.value++s.held).length+p.mean.length) 16777216=ae:=zN (by rw[bE];omega)
 unfold mid
 rw[e3]
 obtain⟨due,a,l,c,start,value,wait,ends,ins,fresh⟩:=s
 have E:iO ends e:=E
 induction E with
 |none=>exact⟨_,.none,λg=>aeb b1 b2 g⟩
 |own x xs=>
  have f:Folds [.lst (cn (x::xs))] (foldOf (x::xs)):=.mk x xs ⟨by have:(x::xs).length+(x::xs).flatten.length≤900:=aL (cF _ _) F;omega,by have:(x::xs).length+(x::xs).flatten.length≤900:=aL (cF _ _) F;omega⟩
  exact⟨_,.lst x xs,λg=>aec f b1 b2 g⟩
 |lst x xs=>
  have f:Folds [.lst (cn (x::xs))] (foldOf (x::xs)):=.mk x xs ⟨by have:(x::xs).length+(x::xs).flatten.length≤900:=aL (cF _ _) F;omega,by have:(x::xs).length+(x::xs).flatten.length≤900:=aL (cF _ _) F;omega⟩
  exact⟨_,.lst x xs,λg=>aed f b1 b2 g⟩
end
section
variable{rv:FV}{text:List Nat}{s:Lr}{e:FV}{p:Pc}{r:R}{st:aq}{n:Nat}
theorem iO.LS(x:List Nat)(xs:List (List Nat))(m:List Nat):iO (ag ((x::xs)++[m])) (.own (.str x::(cn xs++[.str m]))):=w' xs [m]▸ .own x (xs++[m])
theorem F_(hp:p.kd.Dx=ae)(h:s.f7 text p=af)(E:iO s.ends e)(F:s.kF n)(hn:n≤45)(P:p.Small):∃e',iO s.ends e' ∧∀{k r},Gv (aN cW 43 oJ (mid rv text (s.v2 p) e' p) k) r→Gv (aN cW 59 bC (mid rv text s e p) k) r:=by
 have ha:p.kd.nf=af:=by
  obtain⟨kd,_⟩:=p
  cases kd<;>first|rfl|cases hp
 obtain⟨e',E',T⟩:=aea (rv:=rv) (text:=text) ha E F hn P
 refine⟨e',E',λg=>NH hp (jn (a:=mI) (b:=oI++oJ) (n:=43) (by kernel_rfl) (by kernel_rfl) (ad7 ha h ?_))⟩
 exact jn (a:=oI) (b:=oJ) (n:=42) rfl (by kernel_rfl) (T g)
theorem Ga(hp:p.kd.Dx=ae)(h:s.f7 text p=ae)(H:sa rv text s st):jf rv text (q_ p.v st) (refuse s.due s.start s.here):=by
 have ha:p.kd.nf=af:=by
  obtain⟨kd,_⟩:=p
  cases kd<;>first|rfl|cases hp
 obtain⟨e,E,T⟩:=KN (p:=p) H
 obtain⟨st',h1,h2,g⟩:=ad8 (rv:=rv) (text:=text) (e:=e) ha h
 exact .out _ _ h1 h2 (T _ (NH hp (jn (a:=mI) (b:=oI++oJ) (n:=43) (by kernel_rfl) (by kernel_rfl) (g (Gv.leaf _)))))
theorem X7(H:sa rv text s st)(F:s.kF n)(hn:n≤45)(P:p.Small):jf rv text (q_ p.v st) (s.step text p):=by
 obtain⟨e,E,T⟩:=KN (p:=p) H
 have D:aJ s.due.length aZ=ae:=by obtain⟨d,_⟩:=F;exact cB (by omega)
 obtain⟨kd,src,mean,ah,cols⟩:=p
 cases kd with
 |order=>exact .go E (T _ (QT (tl rfl rfl rfl rfl)))
 |next=>exact .go E (T _ (QS (adE rfl rfl rfl rfl)))
 |start=>exact .go .none (T _ (QU (tl rfl rfl rfl rfl)))
 |fault=>exact .out _ _ rfl rfl (T _ (QN (Gv.leaf _)))
 |mark=>exact .out _ _ rfl rfl (T _ (QR (Gv.leaf _)))
 |blank=>
  obtain⟨_,F⟩:=F
  obtain⟨P,_⟩:=P
  have P:src.length≤16:=P
  exact .go E (T _ (QK (zN (by omega)) (tl rfl rfl rfl rfl)))
 |dash=>
  obtain⟨d,_⟩:=F
  cases h1:aI (s.due.length:Nat) 1 with
  |true=>
   have e1:s.oO=⟨(s.due++[d9 yB .none s.here s.here])++[d9 [45] .none s.here (bu (s.a+1:Nat) s.l (s.c+1:Nat))],s.a,s.l,s.c,s.start,s.value,s.wait,s.ends,s.ins,s.fresh⟩:=by unfold Lr.oO;rw[h1];rfl
   show jf _ _ _ (.inl (Lr.mv _ s.oO))
   rw[e1]
   exact .go E (T _ (QL D h1 D (cB (by rw[show ∀a b:List V,bp a b=a++b fromλ_ _=>rfl,bE];show _+1≤_;omega)) (tl rfl rfl rfl rfl)))
  |false=>
   have e1:s.oO=⟨s.due++[d9 [45] .none s.here (bu (s.a+1:Nat) s.l (s.c+1:Nat))],s.a,s.l,s.c,s.start,s.value,s.wait,s.ends,s.ins,s.fresh⟩:=by unfold Lr.oO;rw[h1];rfl
   show jf _ _ _ (.inl (Lr.mv _ s.oO))
   rw[e1]
   exact .go E (T _ (QM D h1 D (tl rfl rfl rfl rfl)))
 |line=>
  obtain⟨_,F⟩:=F
  obtain⟨due,a,l,c,start,value,wait,ends,ins,fresh⟩:=s
  have E:iO ends e:=E
  induction E with
  |none=>exact .go ((.own _ _)) (T _ (QO (FL rfl rfl)))
  |own x xs=>
   have L:(cn xs).length+1≤900:=by
    rw[show(cn xs).length=xs.length from e_ ..]
    exact aL (aL (dh _ _) (cF _ _)) (aL F (nH 20 hn))
   exact .go ((.LS x xs mean)) (T _ (QP (cB (aL L (by decide))) (sg (aL (jy L) (by decide))) (FL rfl rfl)))
  |lst x xs=>
   have L:(cn xs).length+1≤900:=by
    rw[show(cn xs).length=xs.length from e_ ..]
    exact aL (aL (dh _ _) (cF _ _)) (aL F (nH 20 hn))
   exact .go ((.LS x xs mean)) (T _ (QQ (cB (aL L (by decide))) (sg (aL (jy L) (by decide))) (FL rfl rfl)))
 |word=>
  show jf _ _ _ (br (s.f7 text _) _ _)
  cases hs:s.f7 text ⟨.word,src,mean,ah,cols⟩with
  |true=>exact Ga rfl hs H
  |false=>
   obtain⟨e',E',g⟩:=F_ (rv:=rv) rfl hs E F hn P
   exact .go .none (T _ (g (aeg (tl rfl rfl rfl rfl))))
 |eD=>
  show jf _ _ _ (br (s.f7 text _) _ _)
  cases hs:s.f7 text ⟨.eD,src,mean,ah,cols⟩with
  |true=>exact Ga rfl hs H
  |false=>
   obtain⟨e',E',g⟩:=F_ (rv:=rv) rfl hs E F hn P
   exact .go ((.lst [] [])) (T _ (g (aee (adD rfl rfl rfl))))
 |close=>
  show jf _ _ _ (br (s.f7 text _) _ _)
  cases hs:s.f7 text ⟨.close,src,mean,ah,cols⟩with
  |true=>exact Ga rfl hs H
  |false=>
   obtain⟨e',E',g⟩:=F_ (rv:=rv) rfl hs E F hn P
   exact .go .none (T _ (g (aef D (tl rfl rfl rfl rfl))))
end
noncomputable def adw:V:=d9 [60,115,116,114,101,97,109,32,115,116,97,114,116,62] .none (bu 0 0 0) (bu 0 0 0)
noncomputable def Lr.init:Lr:=⟨[adw],0,0,0,bu 0 0 0,[],[],bg,af,af⟩
theorem X6{l:List V}{text:List Nat}{k:Res→Self→au}{r:R}(h:Gv (iH (dk q_ l (Lr.init.df (.v (.lst l)) text (.v .none))) (pZ vY 49 ((aU nu).drop 11) (mP k))) r):Gv (Ko [.lst l,.str text] [] bg k) r:=by
 obtain⟨p,h⟩:=h
 exact Gv.of p (by kernel_rfl) h
theorem XD{x1 x2:FV}{due:List V}{a l c:Int}{x4:V}{x5 x6 x7 x8:FV}{y1 y2 y3 y4 y5:FV}{k:Out→aq→au}{r:R}(hk:Gv (k (.ret (V.tup [(V.lst due),(V.tup [x4,(V.tup [(V.int a),(V.int l),(V.int c)])])])) (b7 x1 x2 (.v (V.lst due)) (.v (V.int a)) (.v (V.int l)) (.v (V.int c)) (.v x4) x5 x6 x7 (.v (V.bool ae)) x8 y1 y2 y3 y4 (.v (V.tup [(V.int a),(V.int l),(V.int c)])))) r):Gv (aN vY 49 ((aU nu).drop 11) (b7 x1 x2 (.own due) (.v (.int a)) (.v (.int l)) (.v (.int c)) (.v x4) x5 x6 x7 (.v (.bool ae)) x8 y1 y2 y3 y4 y5) k) r:=by
 obtain⟨p,hk⟩:=hk
 exact Gv.of (ae::p) (by kernel_rfl) (aj tT hk)
theorem XG{x1 x2:FV}{due:List V}{a l c:Int}{x4:V}{x5 x6 x7 x8:FV}{y1 y2 y3 y4 y5:FV}{k:Out→aq→au}(h1:(aJ (av due+av (V.tup (V.str [60,98,108,111,99,107,32,101,110,100,62]::V.none::V.tup (V.int a::V.int l::V.int c::cg)::V.tup (V.int a::V.int l::V.int c::cg)::cg)::V.tup (V.str [60,115,116,114,101,97,109,32,101,110,100,62]::V.none::V.tup (V.int a::V.int l::V.int c::cg)::V.tup (V.int a::V.int l::V.int c::cg)::cg)::cg)) aZ)=ae){r:R}(hk:Gv (k (.ret (V.tup [(V.lst (bp due [(V.tup [(V.str (sL "<block end>")),V.none,(V.tup [(V.int a),(V.int l),(V.int c)]),(V.tup [(V.int a),(V.int l),(V.int c)])]),(V.tup [(V.str (sL "<stream end>")),V.none,(V.tup [(V.int a),(V.int l),(V.int c)]),(V.tup [(V.int a),(V.int l),(V.int c)])])])),V.none])) (b7 x1 x2 (.v (V.lst due)) (.v (V.int a)) (.v (V.int l)) (.v (V.int c)) (.v x4) x5 x6 x7 (.v (V.bool af)) x8 y1 y2 y3 y4 (.v (V.tup [(V.int a),(V.int l),(V.int c)])))) r):Gv (aN vY 49 ((aU nu).drop 11) (b7 x1 x2 (.own due) (.v (.int a)) (.v (.int l)) (.v (.int c)) (.v x4) x5 x6 x7 (.v (.bool af)) x8 y1 y2 y3 y4 y5) k) r:=by
 obtain⟨p,hk⟩:=hk
 exact Gv.of (af::p) (by kernel_rfl) (aj tF (aM h1 hk))
noncomputable def Lr.run(text:List Nat):List Pc→Lr→Lr⊕V
 | [],s=> .inl s
 |p::r,s=>wj (s.step text p) (Lr.run text r) .inr
noncomputable def Lr.size(s:Lr):Nat:=s.value.length+s.wait.length+oP s.ends
theorem fit_le{s s' :Lr}{n:Nat}(F:s.kF n)(d:s'.due.length≤s.due.length+2)(h:s'.size≤s.size+20):s'.kF (n+1):=by
 obtain⟨d1,h1⟩:=F
 exact⟨aL d (gw d1 2),aL h (gw h1 20)⟩
inductive r7(n:Nat):Lr⊕V→Prop
 |go {s:Lr} (h:s.kF n):r7 n (.inl s)
 |out (d:List V) (x:V) (h:d.length≤2*n+1):r7 n (.inr (.tup [.lst d,x]))
theorem ad2(s:Lr){p:Pc}(P:p.Small):(s.val p).length≤s.size+17:=by
 obtain⟨_,P⟩:=P
 have:=Jk s
 unfold Lr.val Lr.size
 rw[bE,bE];omega
theorem Cd{text:List Nat}{s s' :Lr}{p:Pc}{n:Nat}(D:s.due.length≤2*(n+1)+1)(h:s'.kF (n+1)):r7 (n+1) (s.or text p s'):=by
 unfold Lr.or
 cases s.f7 text p with
 |true=>exact .out _ _ D
 |false=>exact .go h
theorem rV(n:Nat):n≤n+2:=dh _ _
theorem Nf{text:List Nat}{s:Lr}{p:Pc}{n:Nat}(F:s.kF n)(P:p.Small):r7 (n+1) (s.step text p):=by
 have hV:_:=ad2 s P
 have D:s.due.length≤2*(n+1)+1:=by obtain⟨D,_⟩:=F;exact aL D (dh _ 2)
 obtain⟨P1,P2⟩:=P
 obtain⟨kd,src,mean,ah,cols⟩:=p
 cases kd with
 |order=>exact .go (fit_le F (rV _) (dh _ _))
 |next=>exact .go (fit_le F (rV _) (dh _ _))
 |fault=>exact .out _ _ D
 |mark=>exact .out _ _ D
 |start=>exact .go (fit_le F (rV _) (gx _))
 |blank=>exact .go (fit_le F (rV _) (by
  show s.value.length+(s.wait++src).length+oP s.ends≤s.value.length+s.wait.length+oP s.ends+20
  have P1:src.length≤16:=P1
  rw[bE];omega))
 |dash=>exact .go (fit_le F (by
  show(br _ (s.due++[_]) s.due++[_]).length≤_
  rw[bE]
  cases aI (s.due.length:Nat) 1 with
  |true=>exact pP (by rw[show ∀a b:List V,br ae a b=a fromλ_ _=>rfl,bE];rfl)
  |false=>exact pQ _) (dh _ _))
 |line=>exact .go (fit_le F (rV _) (by
  show s.value.length+0+((s.ends.getD []++[mean]).length+(s.ends.getD []++[mean]).flatten.length)≤s.value.length+s.wait.length+oP s.ends+20
  have e:oP s.ends=(s.ends.getD []).length+(s.ends.getD []).flatten.length:=by cases s.ends<;>rfl
  have P2:mean.length≤16:=P2
  rw[e,nG,bE,bE,zF]
  show _+((_+1)+_)≤_
  omega))
 |word=>exact Cd D (fit_le F (rV _) (aL hV (c8 (by decide) _)))
 |eD=>exact Cd D (fit_le F (rV _) (aL (jy hV) (c8 (by decide:18≤20) _)))
 |close=>exact Cd D (fit_le F (by show(s.due++[_]).length≤_;rw[bE];exact pQ _) (aL hV (c8 (by decide) _)))
theorem Fh{text:List Nat}:∀(r:List Pc){s:Lr}{n:Nat},s.kF n→(∀q∈r,q.Small)→r7 (n+r.length) (Lr.run text r s)
 | [],s,n,F,_=> .go F
 |p::r,s,n,F,P=>by
  have G:=Nf (text:=text) F (P p (.head _))
  show r7 _ (wj (s.step text p) (Lr.run text r) .inr)
  generalize s.step text p=x at G
  induction G with
  |out d x h=>exact .out d x (aL h (gw (nH 2 (c8 (cF 1 _) n)) 1))
  |go h=>
   have e:n+(p::r).length=n+1+r.length:=(jz n r.length 1).symm.symm
   rw[e]
   exact Fh r h λq hq=>P q (.tail _ hq)
section
variable{rv:FV}{text:List Nat}
theorem jf.mono{t t' :au}{x:Lr⊕V}(h:jf rv text t x)(m:∀q,Gv t q→Gv t' q):jf rv text t' x:=by
 induction h with
 |go h g=>exact .go h (m _ g)
 |out v st h f g=>exact .out v st h f (m _ g)
theorem Xe{α:Type}{t:α→aq→au}{v:α}{l:List α}{st st' :aq}{e:V}(h:Gv (t v st) (.ret e,st')):Gv (dk t (v::l) st) (.ret e,st'):=⟨[],_,h,rfl⟩
theorem MC:∀(r:List Pc){p:Pc}{s:Lr}{st:aq}{n:Nat},sa rv text s st→s.kF n→n+r.length≤45→(∀q∈p::r,q.Small)→jf rv text (dk q_ ((p::r).map Pc.v) st) (Lr.run text (p::r) s)
 |r,p,s,st,n,H,F,hn,P=>by
  have T:=X7 (p:=p) H F (aL (dh _ _) hn) (P p (.head _))
  have G:=Nf (text:=text) F (P p (.head _))
  show jf rv text _ (wj (s.step text p) (Lr.run text r) .inr)
  generalize s.step text p=x at T G
  induction T with
  |out v st h f g=>exact .out v st h f (Xe g)
  |go h g=>
   cases r with
   |nil=>exact .go h (kg g lX)
   |cons p2 r=>
    refine(MC r (.t _ _ _ _ _ _ h) (n:=n+1) (by cases G;assumption) (by rw[jz];exact hn) λq hq=>P q (.tail _ hq)).mono λq k=>kg g k
end
noncomputable def adx(h:V):List V:=[d9 [60,98,108,111,99,107,32,101,110,100,62] .none h h,d9 [60,115,116,114,101,97,109,32,101,110,100,62] .none h h]
noncomputable def Lr.ended(s:Lr):V:=br s.ins (.tup [.lst s.due,.tup [s.start,s.here]]) (.tup [.lst (s.due++adx s.here),.none])
noncomputable def tQ(text:List Nat)(row:List Pc):V:=wj (Lr.run text row Lr.init) Lr.ended id
inductive Reads:List V→V→Prop
 |mk (text:List Nat) (p:Pc) (r:List Pc) (h:∀q∈p::r,q.Small) (hl:r.length≤44):Reads [.lst ((p::r).map Pc.v),.str text] (tQ text (p::r))
noncomputable def K4(self:Self):Bool:=oe self (λ_=>af) ae
def Mo:Fn:=λargs aE self k=>Tt (isNil aE&&K4 self) λp r=>∃(d:List V)(x:V),Reads args (.tup [.lst d,x])∧k (.ok (.tup [.lst d,x])) self p r
theorem Y3{self:Self}(h:K4 self=ae):self=bg:=by cases self<;>first|rfl|cases h
theorem y_{a:au}{k:Out→aq→au}{o:Out}{st:aq}{r:R}(h:Gv a (o,st))(g:Gv (k o st) r):Gv (iH a k) r:=by
 obtain⟨p,g⟩:=g
 exact⟨p,(o,st),h,g⟩
theorem abh{args:List V}{v:V}(h:Reads args v):Gv (Ko args [] bg bA) (ky (.ok v) bg):=by
 induction h with
 |mk text p r h hl=>
 have F0:Lr.init.kF 0:=⟨eF _,eF _⟩
 have T:=MC (rv:=.v (.lst ((p::r).map Pc.v))) (text:=text) r (.z _ .none) F0 (by rw[fY];exact zT hl) h
 have G:=Fh (text:=text) (p::r) F0 h
 refine X6 ?_
 unfold tQ
 generalize Lr.run text (p::r) Lr.init=x at T G
 induction T with
 |out v st h f g=>
  refine y_ g ?_
  show Gv (Ff st.free (xO bA (.ret v) st.self)) _
  rw[f,h]
  exact Gv.leaf _
 | @go s e y1 y2 y3 y4 y5 h g=>
  refine y_ g ?_
  have D:s.due.length+2≤1000000:=by
   cases G with
   |go F=>obtain⟨d,_⟩:=F;simp only[lE]at d;omega
  have K:∀v st,st.self=bg→st.free=af→Gv (mP bA (.ret v) st) (ky (.ok v) bg):=λv st h f=>by
   show Gv (Ff st.free (xO bA (.ret v) st.self)) _
   rw[f,h]
   exact Gv.leaf _
  show Gv (aN vY 49 ((aU nu).drop 11) (s.at_ _ text e y1 y2 y3 y4 y5) (mP bA)) (ky (.ok s.ended) bg)
  unfold Lr.ended Lr.at_
  cases s.ins with
  |true=>exact XD (K _ _ rfl rfl)
  |false=>exact XG (sg D) (K _ _ rfl rfl)
section
variable{W:Wd}(hK:W.K=K W.w.params)
include hK
theorem abg:bH W (FX W) 5 ae 1121 Mo:=(g9 hK (bnd:=bN [ai "row",ai "text"]) (Oj hK) (D:=4) (fns:=Cm) (by decide) (cK.nil.cons (cE hK (by kernel_rfl)) (IC hK) (by decide)) (loops:=[(ki.pos.line,D6)]) (jQ (G:=cW) (F:=D6) (cA:=.For (eI ki) (eX ki) (bS ki) [] ki.pos) (by kernel_rfl) (by kernel_rfl) (bY.o6 (G:=cW) (l:=[]) (Cp (mD hK nu [] (by decide) (cK.nil.cons (cE hK (by kernel_rfl)) (IC hK) (by decide))) (ji W) (rC W) rfl (l_ (by kernel_rfl)))))).by λargs aE self k r h=>bF h λhk h=>by
 obtain⟨h1,h2⟩:=aF hk
 obtain⟨p,d,x,h3,h4⟩:=h
 rw[c_ h1,Y3 h2]at*
 exact⟨_,_,abh h3,p,h4⟩
end
section
variable(d:Bool)(q:Nat)
inductive dD:List Nat→List Nat→List Nat→List Nat→Prop
 |mk (t:List Nat) (ms:List (List Nat)) (u r:List Nat) (dZ:List (List Nat)) (u1 r1:List Nat) (h:Ns d t ms u r) (h1:Fq d q r dZ u1 (q::r1)):dD t (ms++dZ).flatten (u++u1) r1
inductive WX:List Nat→List Nat→List Nat→Prop
 |ns (t u t' :List Nat) (h:gb d t u t'):WX t u t'
 |fq (t:List Nat) (ms:List (List Nat)) (u r u1 t' :List Nat) (h:Ns d t ms u r) (h1:mC d q r u1 t'):WX t (u++u1) t'
inductive gI:List Nat→List Nat→List Nat→List Nat→Prop
 |mk (t:List Nat) (ms:List (List Nat)) (u r v2 u2 r1:List Nat) (h:iq t ms u r) (hu:1≤u.length) (w:dD d q r v2 u2 r1):gI t (ms.flatten++v2) (u++u2) r1
inductive SX:List Nat→List Nat→List Nat→Prop
 |sp (t u t' :List Nat) (h:oF t u t'):SX t u t'
 |go (t:List Nat) (ms:List (List Nat)) (u r u2 t' :List Nat) (h:iq t ms u r) (hu:1≤u.length) (w:WX d q r u2 t'):SX t (u++u2) t'
inductive gG(es:List (List Nat)):List Nat→List Nat→List Nat→List Nat→Prop
 |mk (t:List Nat) (ms:List (List Nat)) (u r v2 u2 r1:List Nat) (h:fv t ms u r) (w:dD d q r v2 u2 r1):gG es t (foldOf (es++ms)++v2) (u++u2) r1
inductive BX:List Nat→List Nat→List Nat→Prop
 |bk (t u t' :List Nat) (h:kD t u t'):BX t u t'
 |go (t:List Nat) (ms:List (List Nat)) (u r u2 t' :List Nat) (h:fv t ms u r) (w:WX d q r u2 t'):BX t (u++u2) t'
end
inductive Qt:Bool→Nat→Prop where
 |two:Qt ae 34
 |one:Qt af 39
section
variable{d:Bool}{q:Nat}{t v u r r1 u' t' :List Nat}
theorem dD.to{t2 v2 u2:List Nat}(h:dD d q t v u r1)(e:t=t2)(f:v=v2)(g:u=u2):dD d q t2 v2 u2 r1:=e▸f▸g▸h
theorem WX.to{t2 u2:List Nat}(h:WX d q t u t')(e:t=t2)(g:u=u2):WX d q t2 u2 t' :=e▸g▸h
theorem kz:Plain []:=λ_ h=>nomatch h
theorem z0{a b:List Nat}(ha:Plain a)(hb:Plain b):Plain (a++b):=λy hy=>(List.mem_append.mp hy).elim (ha y) (hb y)
theorem z_(w:List Nat):(jB w).flatten=w:=by
 cases w with
 |nil=>rfl
 |cons c w=>exact gv _
theorem Ns.to{ms:List (List Nat)}{t2 u2:List Nat}(h:Ns d t ms u r)(e:t=t2)(g:u=u2):Ns d t2 ms u2 r:=e▸g▸h
theorem gb.to{t2 u2:List Nat}(h:gb d t u r)(e:t=t2)(g:u=u2):gb d t2 u2 r:=e▸g▸h
inductive Pb(d:Bool)(w t u r:List Nat)(m:List Nat):Prop
 |mk (ms:List (List Nat)) (h:Ns d (w++t) ms (w++u) r) (e:ms.flatten=w++m)
theorem Ns.pre{ms:List (List Nat)}(N:Ns d t ms u r){w:List Nat}(hw:Plain w):Pb d w t u r ms.flatten:=by
 induction N with
 |stop w0 x t qU hx h=>exact⟨jB (w++w0),(Ns.stop (w++w0) x t (z0 hw qU) hx h).to (aR ..) rfl,by rw[z_,z_]⟩
 |go w0 src ms r mc u t' qU hi h ih=>exact⟨_,(Ns.go (w++w0) src ms r mc u t' (z0 hw qU) hi h).to (aR ..) (aR ..),by rw[nG,z_,nG,nG,z_,nG,aR]⟩
theorem gb.pre(N:gb d t u r){w:List Nat}(hw:Plain w):gb d (w++t) (w++u) r:=by
 induction N with
 |here w0 src r' qU hi=>exact(gb.here (w++w0) src r' (z0 hw qU) hi).to (aR ..) (aR ..)
 |go d w0 src ms r' u t' qU hi h ih=>exact(gb.go d (w++w0) src ms r' u t' (z0 hw qU) hi h).to (aR ..) (aR ..)
inductive Pre(d:Bool)(src mean:List Nat):Prop
 |mk (ok:∀{q t v u r1},t≠[]→dD d q t v u r1→dD d q (src++t) (mean++v) (src++u) r1) (no:∀{q t u t'},t≠[]→WX d q t u t' →WX d q (src++t) (src++u) t')
theorem Pre.plain{w:List Nat}(hw:Plain w):Pre d w w:=by
 refine⟨λ_ h=>?_,λ_ h=>?_⟩
 ·induction h with
  |mk ms u r dZ u1 r1 h h1=>
   obtain⟨mc,h2,e⟩:=h.pre hw
   exact(dD.mk _ _ _ _ _ _ _ h2 h1).to rfl (by rw[nG,e,nG,aR]) (aR ..)
 ·induction h with
  |ns u t' h=>exact .ns _ _ _ (h.pre hw)
  |fq ms u r u1 t' h h1=>
   obtain⟨mc,h2,e⟩:=h.pre hw
   exact(WX.fq _ _ _ _ _ _ h2 h1).to rfl (aR ..)
theorem Pre.item{src:List Nat}{jw:List (List Nat)}(hi:∀t,t≠[]→It d src jw t):Pre d src jw.flatten:=by
 refine⟨λht h=>?_,λht h=>?_⟩
 ·induction h with
  |mk ms u r dZ u1 r1 h h1=>exact(dD.mk _ _ _ _ _ _ _ (.go [] src jw _ ms u r kz (hi _ ht) h) h1).to rfl (by show((jw++ms)++dZ).flatten=_;rw[aR,nG]) (aR src u u1)
 ·induction h with
  |ns u t' h=>exact .ns _ _ _ (.go d [] src jw _ u t' kz (hi _ ht) h)
  |fq ms u r u1 t' h h1=>exact(WX.fq _ _ _ _ _ _ (.go [] src jw _ ms u r kz (hi _ ht) h) h1).to rfl (aR src u u1)
theorem Pre.app{a b x y:List Nat}(h1:Pre d a x)(h2:Pre d b y):Pre d (a++b) (x++y):=by
 obtain⟨a1,a2⟩:=h1
 obtain⟨b1,b2⟩:=h2
 exact⟨λht h=>(a1 (kj ht) (b1 ht h)).to (aR ..).symm (aR ..).symm (aR ..).symm,λht h=>(a2 (kj ht) (b2 ht h)).to (aR ..).symm (aR ..).symm⟩
noncomputable def qH:List Nat:=[32,9,13,10,133,8232,8233,0]
inductive O5(d:Bool)(q c:Nat):Prop
 |mk (a:my.contains c=ae) (b:∀t,Sg d c t) (e:aB [c] [q]=af)
theorem IV(hq:Qt d q){c:Nat}(h:qH.contains c=ae):O5 d q c:=by
 have h1:=List.all_eq_true.mp (show(qH.all λc=>my.contains c&&(!(aB [c] [39])&&(!(aB [c] [92])&&(!(ax [34,92] c)&& !(aB [c] [34])))))=ae by kernel_rfl) c (List.contains_iff_mem.mp h)
 obtain⟨e1,h1⟩:=aF h1
 obtain⟨e2,h1⟩:=aF h1
 obtain⟨e3,h1⟩:=aF h1
 obtain⟨e4,e5⟩:=aF h1
 induction hq with
 |two=>exact⟨e1,λt=> .t c t (dM e2) (dM e3),dM e5⟩
 |one=>exact⟨e1,λt=> .f c t (dM e2) (dM e4),dM e2⟩
end
inductive Nq:List Nat→Prop
 |mk (c:Nat) (r:List Nat) (h:aB [c] [39]=af):Nq (c::r)
inductive Hd(c:Nat):Prop
 |mk (a:ax [32,9] c=af) (b:aB [c] [0]=af) (h:jh.contains c=af)
section
variable{d:Bool}{q:Nat}{t v u r r1 u' t' w b mm:List Nat}{c:Nat}
theorem gI.to{t2 v2 u2:List Nat}(h:gI d q t v u r1)(e:t=t2)(f:v=v2)(g:u=u2):gI d q t2 v2 u2 r1:=e▸f▸g▸h
theorem SX.to{t2 u2:List Nat}(h:SX d q t u t')(e:t=t2)(g:u=u2):SX d q t2 u2 t' :=e▸g▸h
theorem gG.to{es:List (List Nat)}{t2 v2 u2:List Nat}(h:gG d q es t v u r1)(e:t=t2)(f:v=v2)(g:u=u2):gG d q es t2 v2 u2 r1:=e▸f▸g▸h
theorem BX.to{t2 u2:List Nat}(h:BX d q t u t')(e:t=t2)(g:u=u2):BX d q t2 u2 t' :=e▸g▸h
theorem gI.up(hq:Qt d q)(hc:qH.contains c=ae)(h:gI d q (c::t) v u r1):dD d q (c::t) v u r1:=by
 obtain⟨h1,h2,h3⟩:=IV hq hc
 induction h with
 |mk ms u r v2 u2 r1 h hu w=>
 induction w with
 |mk ja u3 r2 v9 u4 r1 b1 b2=>exact(dD.mk _ [] [] (c::t) _ _ _ (.stop [] c t kz h1 (h2 t)) (.go c t ms u r ja u3 r2 v9 u4 _ h3 hu h b1 b2)).to rfl (show(ms++(ja++v9)).flatten=_ from nG) rfl
theorem SX.up(hq:Qt d q)(hc:qH.contains c=ae)(h:SX d q (c::t) u t'):WX d q (c::t) u t' :=by
 obtain⟨h1,h2,h3⟩:=IV hq hc
 have N:Ns d (c::t) [] [] (c::t):=.stop [] c t kz h1 (h2 t)
 induction h with
 |sp u t' h=>exact .fq _ [] [] (c::t) _ _ N (.sp c t u t' h3 h)
 |go ms u r u2 t' h hu w=>
  induction w with
  |ns u2 t' w=>exact .fq _ [] [] (c::t) _ _ N (.ns c t ms u r u2 t' h3 h w)
  |fq ja u3 r2 u4 t' b1 b2=>exact .fq _ [] [] (c::t) _ _ N (.go c t ms u r ja u3 r2 u4 t' h3 hu h b1 b2)
theorem dD.close(hq:Qt d q)(h:Nq r1):dD d q (q::r1) [] [] r1:=by
 induction hq with
 |two=>exact dD.mk _ _ [] _ _ _ _ (.stop [] 34 r1 kz rfl (.t 34 r1 rfl rfl)) (.stop r1)
 |one=>
  induction h with
  |mk c r h=>exact dD.mk _ _ [] _ _ _ _ (.stop [] 39 (c::r) kz rfl (.close c r h)) (.stop (c::r))
theorem SX.eof(hw:dr w):SX d q (w++0::t) w (0::t):=.sp _ _ _ (.eof w t hw)
theorem G7:dr []:=λ_ h=>nomatch h
theorem WX.eof(hq:Qt d q):WX d q (0::t) [] (0::t):=SX.up hq (by kernel_rfl) (SX.eof (w:=[]) G7)
theorem gI.word(hw:dr w)(h0:1≤w.length)(hc:Hd c)(h:dD d q (c::t) v u r1):gI d q (w++c::t) (w++v) (w++u) r1:=by
 obtain⟨a1,a2,a3⟩:=hc
 exact(gI.mk _ [w] w (c::t) v u r1 (.blank w c t hw a1 a2 a3) h0 h).to rfl (by rw[zF]) rfl
theorem SX.word(hw:dr w)(h0:1≤w.length)(hc:Hd c)(h:WX d q (c::t) u t'):SX d q (w++c::t) (w++u) t' :=by
 obtain⟨a1,a2,a3⟩:=hc
 exact .go _ [w] w (c::t) u _ (.blank w c t hw a1 a2 a3) h0 h
theorem cH.two{m:List Nat}(h:cH b m t):1≤b.length∧cY m=ae:=by
 induction h<;>exact⟨bw rfl,rfl⟩
theorem fv.one{ms:List (List Nat)}(h:fv t ms u t'):ms=[]∨cY ms.flatten=ae:=by
 induction h with
 |stop=>exact .inl rfl
 |go w b m t ms u t' hw hb hs hd h ih=>
  have:=hb.two.2
  cases m with
  |nil=>cases this
  |cons x y=>exact .inr rfl
theorem acm{ms:List (List Nat)}(h:fv t ms u t'):(wO mm ms).flatten=foldOf ([mm]++ms):=by
 show(br (aB mm [10]) (cv ms [[32]] λa b=>a::b) (mm::ms)).flatten=br (aB mm [10]) (rB ms.flatten) (mm++ms.flatten)
 cases aB mm [10]with
 |false=>exact zv
 |true=>
  cases h.one with
  |inl e=>rw[e];rfl
  |inr e=>
   cases ms with
   |nil=>rfl
   |cons a b=>show _=br (cY (a::b).flatten) (a::b).flatten [32];rw[e];rfl
theorem Kh{w b u:List Nat}(h:1≤b.length):1≤(w++(b++u)).length:=by rw[tj];exact aL h (aL (dh _ _) (cF _ _))
theorem xr(a b c e:List Nat):(a++(b++c))++e=a++(b++(c++e)):=by rw[aR,aR]
theorem gI.line(hw:dr w)(hb:cH b mm t)(h:gG d q [mm] t v u r1):gI d q (w++(b++t)) v (w++(b++u)) r1:=by
 induction h with
 |mk ms u r v2 u2 r1 h k=>exact(gI.mk _ _ _ r v2 u2 r1 (.brk w b mm t ms u r hw hb h) (Kh hb.two.1) k).to rfl (by rw[acm h]) (xr ..)
theorem SX.line(hw:dr w)(hb:cH b mm t)(h:BX d q t u t'):SX d q (w++(b++t)) (w++(b++u)) t' :=by
 induction h with
 |bk u t' h=>exact .sp _ _ _ (.brk w b mm t u t' hw hb h)
 |go ms u r u2 t' h k=>exact(SX.go _ _ _ r u2 _ (.brk w b mm t ms u r hw hb h) (Kh hb.two.1) k).to rfl (xr ..)
theorem dD.eD(hb:cH b mm t)(h:gG ae q [[]] t v u r1):dD ae q (92::(b++t)) v (92::(b++u)) r1:=by
 induction h with
 |mk ms u r v2 u2 r1 h k=>
 induction k with
 |mk ja u3 r2 v9 u4 r1 b1 b2=>
  have e:=h.text.1
  refine(dD.mk _ _ _ _ _ _ _ (.go [] (92::(b++u)) ms r ja u3 r2 kz (.eD b mm t ms u r hb h) b1) b2).to ?_ ?_ ?_
  ·rw[e];exact congrArg (92::·) (aR ..)
  ·show((ms++ja)++v9).flatten=ms.flatten++(ja++v9).flatten
   rw[aR,nG]
  ·show 92::(((b++u)++u3)++u4)=92::(b++(u++(u3++u4)))
   rw[aR,aR]
theorem WX.eD(hb:cH b mm t)(h:BX ae q t u t'):WX ae q (92::(b++t)) (92::(b++u)) t' :=by
 induction h with
 |bk u t' h=>
  exact(WX.ns _ _ _ (.here [] (92::(b++u)) t' kz (.eD b mm t u t' hb h))).to (by rw[h.text.1];exact congrArg (92::·) (aR ..)) rfl
 |go ms u r u2 t' h k=>
  have e:[]++((92::(b++u))++r)=92::(b++t):=by rw[h.text.1];exact congrArg (92::·) (aR ..)
  induction k with
  |ns u2 t' k=>exact(WX.ns _ _ _ (.go ae [] (92::(b++u)) ms r u2 t' kz (.eD b mm t ms u r hb h) k)).to e (congrArg (92::·) (aR ..))
  |fq ja u3 r2 u4 t' b1 b2=>exact(WX.fq _ _ _ _ _ _ (.go [] (92::(b++u)) ms r ja u3 r2 kz (.eD b mm t ms u r hb h) b1) b2).to e (by
   show 92::(((b++u)++u3)++u4)=92::(b++(u++(u3++u4)))
   rw[aR,aR])
theorem gG.line{es:List (List Nat)}(hw:dr w)(hb:cH b mm t)(hs:gV (w++(b++t))=af)(hd:j6 (w++(b++t)))(h:gG d q (es++[mm]) t v u r1):gG d q es (w++(b++t)) v (w++(b++u)) r1:=by
 induction h with
 |mk ms u r v2 u2 r1 h k=>exact(gG.mk _ (mm::ms) _ r v2 u2 r1 (.go w b mm t ms u r hw hb hs hd h) k).to rfl (by rw[aR];rfl) (xr ..)
theorem BX.line(hw:dr w)(hb:cH b mm t)(hs:gV (w++(b++t))=af)(hd:j6 (w++(b++t)))(h:BX d q t u t'):BX d q (w++(b++t)) (w++(b++u)) t' :=by
 induction h with
 |bk u t' h=>exact .bk _ _ _ (.go w b mm t u t' hw hb hs hd h)
 |go ms u r u2 t' h k=>exact(BX.go _ (mm::ms) _ r u2 _ (.go w b mm t ms u r hw hb hs hd h) k).to rfl (xr ..)
theorem gG.word{es:List (List Nat)}(hw:dr w)(hc:Hd c)(hs:gV (w++c::t)=af)(hd:j6 (w++c::t))(h:dD d q (c::t) v u r1):gG d q es (w++c::t) (foldOf es++v) (w++u) r1:=by
 obtain⟨a1,a2,a3⟩:=hc
 exact(gG.mk _ [] w (c::t) v u r1 (.stop w c t hw a1 a3 hs hd) h).to rfl (by rw[gv]) rfl
theorem BX.word(hw:dr w)(hc:ax [32,9] c=af)(hb:jh.contains c=af)(hs:gV (w++c::t)=af)(hd:j6 (w++c::t))(h:WX d q (c::t) u t'):BX d q (w++c::t) (w++u) t' :=.go _ [] w (c::t) u _ (.stop w c t hw hc hb hs hd) h
theorem BX.sep(ht:t≠[])(hs:gV t=ae):BX d q t [] t:=.bk _ _ _ (.here t ht hs)
end
inductive Pos(s:Sc)(a l c:Nat):Prop
 |mk (x:s.idx=(a:Int)) (y:s.cI=(l:Int)) (z:s.col=(c:Int))
noncomputable def wide(x:Nat):Nat:=br (aH x 65279) 0 1
noncomputable def width:List Nat→Nat
 | []=>0
 |x::l=>wide x+width l
theorem DR(x y:Nat):aB [x] [y]=aH x y:=by
 show(match aH x y with|true=>ae|false=>af)=_
 cases aH x y<;>rfl
section
variable{s:Sc}{a l c:Nat}
theorem Pos.down(h:Pos s a l c){x:Nat}{t:List Nat}(hd:mN x t=ae):Pos (fO x t s) (a+1) (l+1) 0:=by
 obtain⟨h1,h2,h3⟩:=h
 unfold fO
 rw[hd]
 exact⟨congrArg (· +1) h1,congrArg (· +1) h2,rfl⟩
theorem Pos.over(h:Pos s a l c){x:Nat}{t:List Nat}(hd:mN x t=af):Pos (fO x t s) (a+1) l (c+wide x):=by
 obtain⟨h1,h2,h3⟩:=h
 unfold fO Sc.over wide
 rw[hd,DR]
 cases aH x 65279 with
 |true=>exact⟨congrArg (· +1) h1,h2,h3⟩
 |false=>exact⟨congrArg (· +1) h1,h2,congrArg (· +1) h3⟩
noncomputable def mV(w:List Nat):Bool:=w.all λy=>!(vM y)&& !(aH y 13)
theorem RD{y:Nat}{w:List Nat}(h:mV w=ae)(hy:y∈w)(t:List Nat):mN y t=af:=by
 obtain⟨h1,h2⟩:=aF (List.all_eq_true.mp h y hy)
 unfold mN
 rw[DR,dM h1,dM h2];rfl
theorem Pos.Ig{w0:List Nat}(hf:mV w0=ae):∀(w:List Nat){t:List Nat}{s:Sc}{a l c:Nat},Pos s a l c→(∀y∈w,y∈w0)→Pos (aK w t s) (a+w.length) l (c+width w)
 | [],t,s,a,l,c,h,_=>h
 |x::w,t,s,a,l,c,h,hw=>(eL c (wide x) (width w))▸(jz a 1 w.length)▸Pos.Ig hf w (h.over (RD hf (hw x (.head _)) _)) λy hy=>hw y (.tail _ hy)
theorem Pos.flat(h:Pos s a l c){w:List Nat}(hf:mV w=ae)(t:List Nat):Pos (aK w t s) (a+w.length) l (c+width w):=Pos.Ig hf w h λ_ h=>h
theorem Pos.brk{b m t:List Nat}(hb:cH b m t)(h:Pos s a l c):Pos (aK b t s) (a+b.length) (l+1) 0:=by
 induction hb with
 |crlf t=>exact(h.over (x:=13) (t:=10::t) rfl).down (x:=10) (t:=t) rfl
 |cr t ht=>
  refine h.down (x:=13) (t:=t) ?_
  cases t with
  |nil=>rfl
  |cons e r=>
   show(!(aB [e] [10]))=ae
   cases q:aB [e] [10]with
   |false=>rfl
   |true=>exact absurd (by rw[DR]at q;rw[bG q]) (ht r)
 |lf t=>exact h.down (x:=10) (t:=t) rfl
 |zm t=>exact h.down (x:=133) (t:=t) rfl
 |ls t=>exact h.down (x:=8232) (t:=t) rfl
 |ps t=>exact h.down (x:=8233) (t:=t) rfl
end
theorem G4{w:List Nat}(h:dr w):mV w=ae:=List.all_eq_true.mpr λy hy=>List.all_eq_true.mp (show([32,9].all λy=>!(vM y)&& !(aH y 13))=ae by kernel_rfl) y (List.contains_iff_mem.mp (h y hy))
theorem Qy{y:Nat}(h:ax [32,9] y=ae):wide y=1:=bG (List.all_eq_true.mp (show([32,9].all λy=>aH (wide y) 1)=ae by kernel_rfl) y (List.contains_iff_mem.mp h))
theorem Bn:∀(w:List Nat),dr w→width w=w.length
 | [],_=>rfl
 |x::w,h=>(congr (congrArg Nat.add (Qy (h x (.head _)))) (Bn w λy hy=>h y (.tail _ hy))).trans (kq ..)
noncomputable def Jg(c:Nat):Bool:=!(ax [32,9] c)&&(!(aB [c] [0])&& !(jh.contains c))
theorem yr{c:Nat}(h:Jg c=ae):Hd c:=by
 obtain⟨h1,h⟩:=aF h
 obtain⟨h2,h3⟩:=aF h
 exact⟨dM h1,dM h2,dM h3⟩
noncomputable def rm(c:Nat):Bool:=!(aH c 45)&& !(aH c 46)
noncomputable def xc(w:List Nat):Bool:=mV w&&cv w af λc t=>Jg c&&(rm c||jt (c::t))
noncomputable def L_(w:List Nat):Bool:=w.all λy=>!(my.contains y)
noncomputable def Bo(w:List Nat):Bool:=w.all λy=>ax [32,9] y
theorem Ma{w:List Nat}(h:L_ w=ae):Plain w:=λy hy=>dM (List.all_eq_true.mp h y hy)
theorem G6{w:List Nat}(h:Bo w=ae):dr w:=λy hy=>List.all_eq_true.mp h y hy
inductive de(d:Bool):Pc→Prop where
 |word (w mean:List Nat) (n:Nat) (hp:Pre d w mean) (hb:xc w=ae) (hc:aH n (width w)=ae):de d ⟨.word,w,mean,0,n⟩
 |blank (w:List Nat) (hw:dr w) (h0:1≤w.length):de d ⟨.blank,w,[],0,w.length⟩
 |line (b w mm:List Nat) (hw:dr w) (hb:∀t,cH b mm (w++t)):de d ⟨.line,b++w,mm,0,w.length⟩
 |eD (b w mm:List Nat) (hd:d=ae) (hw:dr w) (hb:∀t,cH b mm (w++t)):de d ⟨.eD,92::(b++w),[],0,w.length⟩
 |fault (x y:List Nat) (k:Nat) (hd:d=ae) (hk:(mV x&&(aH x.length k&&aH (width x) k))=ae) (hi:∀t,mE x (y++t)):de d ⟨.fault,x++y,[],k,0⟩
 |mark (b x mm:List Nat) (hl:b.length=1) (hb:∀t,cH b mm (x++t)) (hx:∀t,gV (x++t)=ae):de d ⟨.mark,b++x,[],0,0⟩
theorem fm{α:Type}{P:α→Prop}{a:α}{l:List α}(h:P a)(t:∀x∈l,P x):∀x∈a::l,P x:=λx hx=>(List.mem_cons.mp hx).elim (λe=>e▸h) (t x)
theorem DC{α:Type}(T:List α){i:Int}(x:α)(h0:0≤i)(h1:i<(T.length:Nat)):ix T i x∈T:=by
 obtain⟨j,e⟩:=aae h0
 rw[e]at h1⊢
 have hj:j<T.length:=Int.ofNat_lt.mp h1
 show T.getD j x∈T
 rw[ER,lH hj]
 exact List.getElem_mem hj
theorem nh{α:Type}(T:List α)(i:Int)(m:Nat)(x:α)(h:T.length=m)(h0:0<m):ix T (i%(m:Nat)) x∈T:=
 DC T x (zB i (Int.ofNat_ne_zero.mpr (Lu h0))) (by rw[h];exact Int.emod_lt_of_pos i (Int.ofNat_lt.mpr h0))
noncomputable def Q9(w:List Nat):Bool:=aH (og w).cols (width w)
theorem aen(d:Bool):∀w∈mz d,de d (og w):=by
 have H:NW.all (λw=>L_ w&&(xc w&&Q9 w))=ae:=by kernel_rfl
 intro w hw
 cases List.mem_append.mp hw with
 |inl hw=>
  obtain⟨h1,h⟩:=aF (List.all_eq_true.mp H w hw)
  obtain⟨h2,h3⟩:=aF h
  exact .word w w _ (.plain (Ma h1)) h2 h3
 |inr hw=>
  rw[List.mem_singleton.mp hw]
  cases d with
  |true=>exact .word [39] [39] _ (.item (jw:=[[39]]) λt ht=> .lit t ht) (by kernel_rfl) (by kernel_rfl)
  |false=>exact .word [34] [34] _ (.item (jw:=[[34]]) λt ht=> .one 34 t rfl rfl ht) (by kernel_rfl) (by kernel_rfl)
theorem Qz(d:Bool):∀w∈oK,de d (xD w):=λw hw=>by
 obtain⟨h1,h2⟩:=aF (List.all_eq_true.mp (show oK.all (λw=>Bo w&&aJ 1 w.length)=ae by kernel_rfl) w hw)
 exact .blank w (G6 h1) (bw h2)
noncomputable def BL:List (List Nat×List Nat×List Nat):=[([10],[],[10]),([13,10],[32,32],[10]),([13],[32],[10]),([133],[],[10]),([8232],[],[8232]),([8233],[9],[8233]),([13,10],[],[10])]
theorem R8:∀p∈BL,∀t,cH p.1 p.2.2 (p.2.1++t):=
 fm (λt=> .lf _) (fm (λt=> .crlf _) (fm (λt=> .cr _ λr e=>nomatch e) (fm (λt=> .zm _) (fm (λt=> .ls _) (fm (λt=> .ps _) (fm (λt=> .crlf _) dw))))))
theorem HJ(d:Bool):∀e∈iz,de d (yU e)∧(d=ae→de d (xy e)):=by
 rw[show iz=BL.map λp=>(p.1++p.2.1,p.2.2,p.2.1.length)by kernel_rfl]
 intro e he
 obtain⟨p,hp,e⟩:=List.mem_map.mp he
 have h1:=G6 (List.all_eq_true.mp (show BL.all (λp=>Bo p.2.1)=ae by kernel_rfl) p hp)
 have h2:=R8 p hp
 rw[←e]
 exact⟨.line p.1 p.2.1 p.2.2 h1 h2,λhd=> .eD p.1 p.2.1 p.2.2 hd h1 h2⟩
theorem Sq:∀e∈lT,de ae (qw e):=by
 have H:lT.all (λe=>xc e.1&&aH (qw e).cols (width e.1))=ae:=by kernel_rfl
 intro e he
 obtain⟨h1,h2⟩:=aF (List.all_eq_true.mp H e he)
 rw[show lT=uW.map (λp=>([92,p.1],[p.2]))++vz.map (λp=>(92::p.1::p.2.2.1,[p.2.2.2]))by kernel_rfl]at he
 cases List.mem_append.mp he with
 |inl he=>
  obtain⟨p,hp,e⟩:=List.mem_map.mp he
  rw[←e]at h1 h2⊢
  exact .word _ _ _ (.item (jw:=[[p.2]]) λt ht=> .BS p.1 p.2 t hp ht) h1 h2
 |inr he=>
  obtain⟨p,hp,e⟩:=List.mem_map.mp he
  rw[←e]at h1 h2⊢
  exact .word _ _ _ (.item (jw:=[[p.2.2.2]]) λt ht=> .num p.1 p.2.1 p.2.2.1 p.2.2.2 t hp ht) h1 h2
theorem abZ:∀e∈pW,de af (qw e):=
 fm (.word [39,39] [39] _ (.item (jw:=[[39]]) λt ht=> .pair t ht) (by kernel_rfl) (by kernel_rfl))
 (fm (.word [92] [92] _ (.item (jw:=[[92]]) λt ht=> .one 92 t rfl rfl ht) (by kernel_rfl) (by kernel_rfl))
 (fm (.word [34] [34] _ (.item (jw:=[[34]]) λt ht=> .one 34 t rfl rfl ht) (by kernel_rfl) (by kernel_rfl))
 (fm (.word [92,110] [92,110] _ (Pre.app (a:=[92]) (b:=[110]) (.item (jw:=[[92]]) λt ht=> .one 92 t rfl rfl ht) (.plain (Ma (by kernel_rfl)))) (by kernel_rfl) (by kernel_rfl)) dw)))
theorem PY{e:Nat}(h:qk.contains e=ae):e∈qk:=List.contains_iff_mem.mp h
theorem Vz{w:List Nat}(h:(w.all λy=>qM.contains y)=ae):oq w:=λy hy=>List.all_eq_true.mp h y hy
theorem BZ(e n:Nat)(w:List Nat)(y:Nat)(h1:Du e n=ae)(h2:iL w.length n=ae)(h3:(w.all λy=>qM.contains y)=ae)(h4:qM.contains y=af)(h5:iL y 1114112=ae)(h6:(mV [92,e]&&(aH 2 2&&aH (width [92,e]) 2))=ae):de ae ⟨.fault,[92,e]++(w++[y]),[],2,0⟩:=
 .fault [92,e] (w++[y]) 2 rfl h6 λt=>by rw[aR];exact .num e n w y t (JL h1) (bw h2) (Vz h3) h4 h5
theorem xW(e:Nat)(r:List Nat)(h:qk.contains e=ae):de ae ⟨.fault,[92]++e::r,[],1,0⟩:=.fault [92] (e::r) 1 rfl (by kernel_rfl) λt=> .bad e (r++t) (PY h)
theorem S3:∀e∈mU,de ae (xV e):=
 fm (xW 113 [] (by kernel_rfl)) (fm (xW 39 [] (by kernel_rfl)) (fm (xW 88 [52,49] (by kernel_rfl)) (fm (xW 49 [] (by kernel_rfl))
 (fm (BZ 120 2 [52] 103 (by kernel_rfl) (by kernel_rfl) (by kernel_rfl) (by kernel_rfl) (by kernel_rfl) (by kernel_rfl)) (fm (BZ 117 4 [48,48,101] 33 (by kernel_rfl) (by kernel_rfl) (by kernel_rfl) (by kernel_rfl) (by kernel_rfl) (by kernel_rfl)) (fm (BZ 85 8 [48,48,48,49,70,54,48] 32 (by kernel_rfl) (by kernel_rfl) (by kernel_rfl) (by kernel_rfl) (by kernel_rfl) (by kernel_rfl)) dw))))))
theorem Yw(d:Bool):∀w∈pF,de d (zh w):=
 fm (.mark [10] [45,45,45,32] [10] rfl (λt=> .lf _) λt=>rfl) (fm (.mark [8232] [46,46,46,10] [8232] rfl (λt=> .ls _) λt=>rfl) dw)
theorem qp{α:Type}{P:α→Prop}{b:Bool}{x y:α}(h1:b=ae→P x)(h2:b=af→P y):P (br b x y):=by
 cases b with
 |true=>exact h1 rfl
 |false=>exact h2 rfl
theorem aaP(n:Int)(d:Bool):de d (pieceOf n d):=
 qp (P:=de d) (λ_=>aen d _ (nh _ _ 9 _ (by cases d<;>rfl) (bw rfl)))
 λ_=>qp (P:=de d) (λ_=>Qz d _ (nh oK _ 3 _ rfl (bw rfl)))
 λ_=>qp (P:=de d) (λ_=>qp (P:=de d) (λh=>(HJ d _ (nh iz _ 7 _ rfl (bw rfl))).2 (aF h).2) λ_=>(HJ d _ (nh iz _ 7 _ rfl (bw rfl))).1)
 λ_=>qp (P:=de d) (λ_=>by
  cases d with
  |true=>exact Sq _ (nh lT _ 26 _ rfl (bw rfl))
  |false=>exact abZ _ (nh pW _ 4 _ rfl (bw rfl)))
 λ_=>qp (P:=de d) (λh=>by
  obtain⟨h1,h2⟩:=aF h
  rw[h2]
  exact S3 _ (DC mU _ (zB _ (by decide)) (jT h1))) λ_=>Yw d _ (nh pF _ 2 _ rfl (bw rfl))
def iR(d:Bool)(q:Nat)(en:Option (List (List Nat)))(w t v u r1:List Nat):Prop:=pO en (cv w (dD d q t v u r1) λ_ _=>gI d q (w++t) v (w++u) r1) λes=>gG d q es (w++t) v (w++u) r1
def PX(d:Bool)(q:Nat)(en:Option (List (List Nat)))(w t u t' :List Nat):Prop:=pO en (cv w (WX d q t u t') λ_ _=>SX d q (w++t) (w++u) t') λ_=>BX d q (w++t) (w++u) t'
inductive Ph(s:Lr)(w:List Nat):Prop
 |flat (hw:dr w) (e:s.ends=bg) (h:s.wait=w) (f:s.fresh=af)
 |lP (hw:dr w) (es:List (List Nat)) (e:s.ends=ag es) (f:s.fresh=isNil w)
inductive sb(t:List Nat):Prop
 |mk (a:gV t=af) (b:j6 t)
section
variable{d:Bool}{q:Nat}{t v u r r1 u' t' w b mm:List Nat}{c:Nat}{s:Lr}
theorem iR.to{en:Option (List (List Nat))}{t2 v2 u2:List Nat}(h:iR d q en w t v u r1)(e:t=t2)(f:v=v2)(g:u=u2):iR d q en w t2 v2 u2 r1:=e▸f▸g▸h
theorem PX.to{en:Option (List (List Nat))}{t2 u2:List Nat}(h:PX d q en w t u t')(e:t=t2)(g:u=u2):PX d q en w t2 u2 t' :=e▸g▸h
theorem KH(h:rm c=ae)(t:List Nat):ri (c::t)=af:=by
 obtain⟨h1,h2⟩:=aF h
 show((match aH c 45 with|true=>aB (t.take 2) [45,45]|false=>af)||(match aH c 46 with|true=>aB (t.take 2) [46,46]|false=>af))=af
 rw[dM h1,dM h2];rfl
theorem nV(h:rm c=ae)(t:List Nat):sb (c::t):=⟨by unfold gV;rw[KH h];rfl,λe=>nt ((KH h t).symm.trans e)⟩
theorem wI(hw:dr w)(h:w=[]→sb t):sb (w++t):=by
 cases w with
 |nil=>exact h rfl
 |cons x w=>exact nV (List.all_eq_true.mp (show([32,9].all rm)=ae by kernel_rfl) x (List.contains_iff_mem.mp (hw x (.head _)))) _
inductive NY(b:List Nat):Prop
 |mk (c:Nat) (r:List Nat) (e:b=c::r) (g:qH.contains c=ae) (n:rm c=ae)
theorem G_(hb:cH b mm t):NY b:=by
 induction hb<;>exact⟨_,_,rfl,by kernel_rfl,by kernel_rfl⟩
theorem G5{x:Nat}(h:ax [32,9] x=ae):qH.contains x=ae:=List.all_eq_true.mp (show([32,9].all λx=>qH.contains x)=ae by kernel_rfl) x (List.contains_iff_mem.mp h)
theorem DN{α:Type}(a:α)(l:List α):1≤(a::l).length:=cF _ _
theorem JX{l:List Nat}(h:l=[]):isNil l=ae:=by rw[h];rfl
theorem Gb(P:Ph s w)(hc:Hd c)(hs:s.fresh=ae→sb (c::t))(h:dD d q (c::t) v u r1):iR d q s.ends w (c::t) (s.held++v) u r1:=by
 unfold Lr.held
 cases P with
 |flat hw e k f=>
  rw[e]
  show iR d q bg w (c::t) (s.wait++v) u r1
  rw[k]
  cases w with
  |nil=>exact h
  |cons a w=>exact gI.word hw (DN ..) hc h
 |lP hw es e f=>
  rw[e]
  obtain⟨h1,h2⟩:=wI (t:=c::t) hw λe=>hs (f.trans (JX e))
  exact gG.word hw hc h1 h2 h
theorem Gd(P:Ph s w)(hc:Hd c)(hs:s.fresh=ae→sb (c::t))(h:WX d q (c::t) u t'):PX d q s.ends w (c::t) u t' :=by
 cases P with
 |flat hw e k f=>
  rw[e]
  cases w with
  |nil=>exact h
  |cons a w=>exact SX.word hw (DN ..) hc h
 |lP hw es e f=>
  rw[e]
  obtain⟨h1,h2⟩:=wI (t:=c::t) hw λe=>hs (f.trans (JX e))
  obtain⟨a,_,g⟩:=hc
  exact BX.word hw a g h1 h2 h
theorem aer(hq:Qt d q)(P:Ph s w)(hb:cH b mm t)(h:gG d q (s.ends.getD []++[mm]) t v u r1):iR d q s.ends w (b++t) v (b++u) r1:=by
 obtain⟨c,r,e,g,n⟩:=G_ hb
 cases P with
 |flat hw e2 k f=>
  rw[e2]at h⊢
  have h4:=gI.line hw hb h
  cases w with
  |nil=>rw[e]at h4⊢;exact gI.up hq g h4
  |cons a w=>exact h4
 |lP hw es e2 f=>
  rw[e2]at h⊢
  obtain⟨h1,h2⟩:=wI (t:=b++t) hw λ_=>by rw[e];exact nV n _
  exact gG.line hw hb h1 h2 h
theorem NX(hq:Qt d q)(P:Ph s w)(hb:cH b mm t)(h:BX d q t u t'):PX d q s.ends w (b++t) (b++u) t' :=by
 obtain⟨c,r,e,g,n⟩:=G_ hb
 cases P with
 |flat hw e2 k f=>
  rw[e2]
  have h4:=SX.line hw hb h
  cases w with
  |nil=>rw[e]at h4⊢;exact SX.up hq g h4
  |cons a w=>exact h4
 |lP hw es e2 f=>
  rw[e2]
  obtain⟨h1,h2⟩:=wI (t:=b++t) hw λ_=>by rw[e];exact nV n _
  exact BX.line hw hb h1 h2 h
theorem iR.jc(h0:1≤w.length)(h:iR d q bg w t v u r1):gI d q (w++t) v (w++u) r1:=by
 cases w with
 |nil=>exact absurd h0 (wm _)
 |cons=>exact h
theorem PX.jc(h0:1≤w.length)(h:PX d q bg w t u t'):SX d q (w++t) (w++u) t' :=by
 cases w with
 |nil=>exact absurd h0 (wm _)
 |cons=>exact h
theorem Kg{a b:List Nat}(h:1≤b.length):1≤(a++b).length:=by rw[bE];exact aL h (cF _ _)
theorem iR.blank(hq:Qt d q){en:Option (List (List Nat))}(hb:dr b)(h0:1≤b.length)(h:iR d q en (w++b) t v u r1):iR d q en w (b++t) v (b++u) r1:=by
 cases en with
 |none=>
  have h:=(h.jc (Kg h0)).to (aR ..) rfl (aR ..)
  cases w with
  |nil=>cases b with
   |nil=>exact absurd h0 (wm _)
   |cons c b=>exact gI.up hq (G5 (hb c (.head _))) h
  |cons a w=>exact h
 |some es=>exact gG.to h (aR ..) rfl (aR ..)
theorem PX.blank(hq:Qt d q){en:Option (List (List Nat))}(hb:dr b)(h0:1≤b.length)(h:PX d q en (w++b) t u t'):PX d q en w (b++t) (b++u) t' :=by
 cases en with
 |none=>
  have h:=(h.jc (Kg h0)).to (aR ..) (aR ..)
  cases w with
  |nil=>cases b with
   |nil=>exact absurd h0 (wm _)
   |cons c b=>exact SX.up hq (G5 (hb c (.head _))) h
  |cons a w=>exact h
 |some es=>exact BX.to h (aR ..) (aR ..)
theorem mO{text src rest:List Nat}{a:Nat}(h:text.drop a++[0]=src++rest)(hr:rest≠[]):text.drop (a+src.length)++[0]=rest:=by
 have hl:src.length≤(text.drop a).length:=by
  have:=congrArg av h
  rw[bE,bE]at this
  cases rest with
  |nil=>exact absurd rfl hr
  |cons x y=>exact ED (aL (c8 (DN x y) src.length) (pP this.symm))
 have:=congrArg (List.drop src.length) h
 rw[List.drop_append_of_le_length hl,List.drop_drop,List.drop_left]at this
 exact this
theorem GK{text r:List Nat}{a:Nat}(h0:∀y∈text,(y==0)=af)(h:text.drop (a+3)++[0]=c::r):kK text a=mQ.contains c:=by
 unfold kK lO
 rw[List.drop_take,Nat.add_sub_add_left]
 cases hx:text.drop (a+3)with
 |nil=>rw[hx]at h;rw[←(LG h).1];rfl
 |cons y z=>
  rw[hx]at h
  have hy:=h0 y (List.mem_of_mem_drop (i:=a+3) (by rw[hx];exact .head _))
  rw[←(LG h).1]
  show Ag.contains y=ax (0::Ag) y
  rw[wq,hy];rfl
theorem WZ{src:List Nat}(h:jt src=ae):src=[45,45,45]∨src=[46,46,46]:=by
 unfold jt at h
 cases h1:aB [45,45,45] src with
 |true=>exact .inl (pq h1).symm
 |false=>rw[h1]at h;exact .inr (pq h).symm
theorem abR{text src:List Nat}{a:Nat}{r:List Nat}(h0:∀y∈text,(y==0)=af)(ht:text.drop a++[0]=src++c::r)(hs:jt src=ae):gV (src++c::r)=kK text a∧j6 (src++c::r):=by
 have hd:=mO ht (fE _ _)
 cases WZ hs with
 |inl e=>rw[e]at hd⊢;rw[GK h0 hd];exact⟨rfl,λ_=>⟨c,rfl⟩⟩
 |inr e=>rw[e]at hd⊢;rw[GK h0 hd];exact⟨rfl,λ_=>⟨c,rfl⟩⟩
end
noncomputable def b_:List Pc→List Nat
 | []=>[]
 |p::ps=>p.src++b_ ps
inductive AU(s s' :Lr)(n:Nat):Prop
 |mk (h1:s'.due=s.due) (h2:s'.start=s.start) (h3:s'.ins=s.ins) (h4:s'.a=s.a+n)
inductive Led(d:Bool)(q:Nat)(s:Lr)(w:List Nat)(c:Sc)(R U tl:List Nat):Lr⊕V→Prop
 |out (u t' :List Nat) (x y z:Nat) (e:R=u++t') (h:PX d q s.ends w R u t') (p:Pos (aK u t' c) x y z):Led d q s w c R U tl (refuse s.due s.start (bu x y z))
 |go (s' :Lr) (same:AU s s' U.length) (p:Pos (aK U tl c) s'.a s'.l s'.c) (hx:tl=[0]→PX d q s.ends w R U tl) (ho:∀r1,tl=q::r1→Nq r1→∃v,iR d q s.ends w R v U r1∧s'.value++s'.held=s.value++v):Led d q s w c R U tl (.inl s')
section
variable{d:Bool}{q:Nat}{s s1:Lr}{w w1 b R U tl:List Nat}{c:Sc}{x:Lr⊕V}
theorem Led.step(e:R=U++tl)(S:AU s s1 b.length)(hX:∀u t',PX d q s1.ends w1 R u t' →PX d q s.ends w (b++R) (b++u) t')
 (hO:∀v u r1,iR d q s1.ends w1 R v u r1→∃v',iR d q s.ends w (b++R) v' (b++u) r1∧s.value++v' =s1.value++v) (h:Led d q s1 w1 (aK b R c) R U tl x):Led d q s w c (b++R) (b++U) tl x:=by
 obtain⟨ME,MF,s3',s4'⟩:=S
 induction h with
 |out u t' x y z e1 h p=>
  rw[ME,MF]
  exact .out (b++u) t' x y z (by rw[e1,aR]) (hX u t' h) (by rw[hJ,←e1];exact p)
 |go s' same p hx ho=>
  obtain⟨t1,t2,t3,t4⟩:=same
  refine .go s' ⟨t1.trans ME,t2.trans MF,t3.trans s3',by rw[t4,s4',bE,eL]⟩ (by rw[hJ,←e];exact p) (λht=>hX _ _ (hx ht)) λr1 ht hn=>?_
  obtain⟨v,o,ev⟩:=ho r1 ht hn
  obtain⟨v',o',Ss⟩:=hO v _ r1 o
  exact⟨v',o',ev.trans Ss.symm⟩
theorem aa8(hq:Qt d q):Hd q∧rm q=ae:=by
 cases hq<;>exact⟨⟨rfl,rfl,rfl⟩,rfl⟩
theorem QA(hq:Qt d q)(P:Ph s w)(hp:Pos c s.a s.l s.c):Led d q s w c tl [] tl (.inl s):=by
 refine .go s ⟨rfl,rfl,rfl,rfl⟩ hp (λe=>?_) λr1 e hn=>?_
 ·rw[e]
  cases P with
  |flat hw he k f=>
   rw[he]
   cases w with
   |nil=>exact WX.eof hq
   |cons a w=>exact(SX.eof (t:=[]) hw).to rfl (gv _).symm
  |lP hw es he f=>
   rw[he]
   obtain⟨h1,h2⟩:=wI (t:=[0]) hw λ_=>nV rfl _
   exact BX.word hw rfl rfl h1 h2 (WX.eof hq)
 ·rw[e]
  obtain⟨h1,h2⟩:=aa8 hq
  exact⟨s.held++[],Gb P h1 (λ_=>nV h2 _) (dD.close hq hn),by rw[gv]⟩
theorem Pn(h1:s.ends=bg)(h2:s.wait=[])(h3:s.fresh=af):Ph s []:=.flat G7 h1 h2 h3
theorem HN(w:List Nat):aI (w.length:Nat) 0=isNil w:=by
 cases w with
 |nil=>rfl
 |cons a w=>exact decide_eq_false λe=>Z_ _ (LH e)
theorem Ng{text:List Nat}{p:Pc}(h:jt p.src=af):s.f7 text p=af:=by
 unfold Lr.f7
 rw[h]
 cases s.fresh<;>rfl
theorem abQ(x:List Nat):jt (92::x)=af:=rfl
theorem LQ{text:List Nat}{p:Pc}{s' :Lr}(h:s.f7 text p=af):s.or text p s' =.inl s' :=by unfold Lr.or;rw[h];rfl
theorem aal{text:List Nat}{p:Pc}{s' :Lr}(h:s.f7 text p=ae):s.or text p s' =refuse s.due s.start s.here:=by unfold Lr.or;rw[h];rfl
end
inductive Py(w0:List Nat):Prop
 |mk (c:Nat) (t:List Nat) (e:w0=c::t) (f:mV w0=ae) (h:Hd c) (s:(rm c||jt w0)=ae)
theorem ael{w0:List Nat}(h:xc w0=ae):Py w0:=by
 obtain⟨f,h⟩:=aF h
 cases w0 with
 |nil=>cases h
 |cons c t=>
  obtain⟨h1,h2⟩:=aF h
  exact⟨c,t,rfl,f,yr h1,h2⟩
theorem wy{a b:Bool}(h:(a||b)=ae):a=ae∨b=ae:=by
 cases a with
 |true=>exact .inl rfl
 |false=>exact .inr h
section
variable{d:Bool}{q:Nat}{text:List Nat}{ps:List Pc}{s:Lr}{w R U tl:List Nat}{c:Sc}
theorem Pos.to{c:Sc}{a l k a2 k2:Nat}(h:Pos c a l k)(e:a=a2)(f:k=k2):Pos c a2 l k2:=e▸f▸h
theorem Md{a l k:Nat}{b w m:List Nat}(hb:cH b m (w++R))(hw:dr w)(h:Pos c a l k):Pos (aK (b++w) R c) (a+(b++w).length) (l+1) w.length:=by
 rw[hJ]
 exact((h.brk hb).flat (G4 hw) R).to (by rw[bE,eL]) (by rw[Bn w hw,fY])
theorem aaY{a l k:Nat}{b w m:List Nat}(hb:cH b m (w++R))(hw:dr w)(h:Pos c a l k):Pos (aK (92::(b++w)) R c) (a+(92::(b++w)).length) (l+1) w.length:=
 (Md hb hw (h.over (x:=92) (t:=(b++w)++R) rfl)).to (jz a 1 _) rfl
def GA(d:Bool)(q:Nat)(text:List Nat)(ps:List Pc)(s:Lr)(c:Sc)(b R U tl:List Nat):Prop:=∀{s1 w1},AU s s1 b.length→Ph s1 w1→Pos (aK b R c) s1.a s1.l s1.c→Led d q s1 w1 (aK b R c) R U tl (Lr.run text ps s1)
theorem MD{p:Pc}{s' :Lr}(h:s.f7 text p=af):wj (motive:=λ_=>Lr⊕V) (s.or text p s') (Lr.run text ps) .inr=Lr.run text ps s' :=by rw[LQ h]
theorem zj{b w u:List Nat}:92::(b++(w++u))=(92::(b++w))++u:=congrArg (92::·) (aR ..).symm
theorem aem{w0 mean:List Nat}{n:Nat}{x:Nat}{r:List Nat}(hp:Pre d w0 mean)(hb:xc w0=ae)(hc:aH n (width w0)=ae)(e:R=U++tl)(hR:R=x::r)(h0:∀y∈text,(y==0)=af)(ht:text.drop s.a++[0]=w0++R)(P:Ph s w)(k_:Pos c s.a s.l s.c)(I:GA d q text ps s c w0 R U tl):Led d q s w c (w0++R) (w0++U) tl (Lr.run text (⟨.word,w0,mean,0,n⟩::ps) s):=by
 obtain⟨c0,t0,ew,hf,hh,hm⟩:=ael hb
 have fS:R≠[]:=by rw[hR];exact fE _ _
 have L:jt w0=ae→gV (w0++R)=kK text s.a∧j6 (w0++R):=λhs=>by rw[hR]at ht⊢;exact abR h0 ht hs
 show Led d q s w c (w0++R) (w0++U) tl (wj (s.or text _ _) (Lr.run text ps) .inr)
 cases hs:s.f7 text ⟨.word,w0,mean,0,n⟩with
 |true=>
  obtain⟨h1,h2⟩:=aF hs
  obtain⟨h2,h3⟩:=aF h2
  rw[aal hs]
  refine .out [] (w0++R) s.a s.l s.c rfl ?_ k_
  cases P with
  |flat hw he k f=>exact nt (f.symm.trans h1)
  |lP hw es he f=>
   rw[c_ (f.symm.trans h1),he]
   exact BX.sep (t:=w0++R) (kj fS) ((L h2).1.trans h3)
 |false=>
  rw[MD hs]
  have hS:s.fresh=ae→sb (c0::(t0++R)):=λiD=>by
   cases wy hm with
   |inl h=>exact nV h _
   |inr h=>
    obtain⟨l1,l2⟩:=L h
    have ha:kK text s.a=af:=by
     unfold Lr.f7 at hs
     rw[iD]at hs
     rw[show jt (Pc.src ⟨.word,w0,mean,0,n⟩)=ae from h]at hs
     exact hs
    rw[ew]at l1 l2
    exact⟨l1.trans ha,l2⟩
  obtain⟨p1,p2⟩:=hp
  refine Led.step (w1:=[]) e (s1:=(s.put ⟨.word,w0,mean,0,n⟩ bg af).mv ⟨.word,w0,mean,0,n⟩) ⟨rfl,rfl,rfl,rfl⟩ (λu t' h=>?_) (λv u r1 h=>?_) (I ⟨rfl,rfl,rfl,rfl⟩ (Pn rfl rfl rfl) ((k_.flat hf R).to rfl (by rw[bG hc];rfl)))
  ·have:=p2 fS (show WX d q R u t' from h)
   rw[ew]at this⊢
   exact Gd P hh hS this
  ·have:=p1 fS (show dD d q R v u r1 from h)
   refine⟨s.held++(mean++v),?_,?_⟩
   ·rw[ew]at this⊢
    exact Gb P hh hS this
   ·show _=((s.value++s.held)++mean)++v
    rw[aR,aR]
theorem aaR{p:Pc}{x:Nat}{r:List Nat}(hq:Qt d q)(B:de d p)(e:R=U++tl)(hR:R=x::r)(h0:∀y∈text,(y==0)=af)(ht:text.drop s.a++[0]=p.src++R)(P:Ph s w)(k_:Pos c s.a s.l s.c)(I:GA d q text ps s c p.src R U tl):Led d q s w c (p.src++R) (p.src++U) tl (Lr.run text (p::ps) s):=by
 induction B with
 |word w0 mean n hp hb hc=>exact aem hp hb hc e hR h0 ht P k_ I
 |blank b hb hl=>
  have P1:Ph ((s.Bp ⟨.blank,b,[],0,b.length⟩).mv ⟨.blank,b,[],0,b.length⟩) (w++b):=by
   cases P with
   |flat hw he k f=>exact .flat (λy hy=>(List.mem_append.mp hy).elim (hw y) (hb y)) he (congrArg (· ++b) k) rfl
   |lP hw es he f=>exact .lP (λy hy=>(List.mem_append.mp hy).elim (hw y) (hb y)) es he (by
    cases w with
    |nil=>cases b with
     |nil=>exact absurd hl (wm _)
     |cons=>rfl
    |cons=>rfl)
  exact Led.step (s1:=(s.Bp ⟨.blank,b,[],0,b.length⟩).mv ⟨.blank,b,[],0,b.length⟩) (w1:=w++b) e ⟨rfl,rfl,rfl,rfl⟩ (λu t' h=>PX.blank hq hb hl h) (λv u r1 h=>⟨v,iR.blank hq hb hl h,rfl⟩) (I ⟨rfl,rfl,rfl,rfl⟩ P1 ((k_.flat (G4 hb) R).to rfl (by rw[Bn b hb];rfl)))
 |line b wl mm hw hb=>
  exact Led.step (s1:=(s.cI ⟨.line,b++wl,mm,0,wl.length⟩).nl ⟨.line,b++wl,mm,0,wl.length⟩) (w1:=wl) e ⟨rfl,rfl,rfl,rfl⟩ (λu t' h=>(NX hq P (hb R) h).to (aR ..).symm (aR ..).symm) (λv u r1 h=>⟨v,(aer hq P (hb R) h).to (aR ..).symm rfl (aR ..).symm,rfl⟩) (I ⟨rfl,rfl,rfl,rfl⟩ (.lP hw _ rfl (HN wl)) (Md (hb R) hw k_))
 |eD b wl mm hd hw hb=>
  rw[hd]at I⊢
  rw[hd]at hq
  show Led ae q s w c _ _ tl (wj (s.or text _ _) (Lr.run text ps) .inr)
  rw[MD (Ng (abQ (b++wl)))]
  refine Led.step (s1:=(s.put ⟨.eD,92::(b++wl),[],0,wl.length⟩ (ag [[]]) (aI wl.length 0)).nl ⟨.eD,92::(b++wl),[],0,wl.length⟩) (w1:=wl) e ⟨rfl,rfl,rfl,rfl⟩ (λu t' h=>?_) (λv u r1 h=>⟨s.held++v,?_,?_⟩) (I ⟨rfl,rfl,rfl,rfl⟩ (.lP hw _ rfl (HN wl)) (aaY (hb R) hw k_))
  ·exact(Gd P (yr (by kernel_rfl)) (λ_=>nV rfl _) (WX.eD (hb R) h)).to zj zj
  ·exact(Gb P (yr (by kernel_rfl)) (λ_=>nV rfl _) (dD.eD (hb R) h)).to zj rfl zj
  ·show _=((s.value++s.held)++[])++v
   rw[gv,aR]
 |fault x y k hd hk hi=>
  obtain⟨h1,h2⟩:=aF hk
  obtain⟨h2,h3⟩:=aF h2
  rw[hd]at I⊢
  refine .out x (y++R) (s.a+k) s.l (s.c+k) (aR ..) ?_ ((k_.flat h1 (y++R)).to (by rw[bG h2]) (by rw[bG h3]))
  obtain⟨_,t,e2⟩:=(hi R).ne
  have N:gb ae (x++(y++R)) x (y++R):=.here [] x (y++R) kz (hi R)
  rw[e2]at N⊢
  exact(Gd P (yr (by kernel_rfl)) (λ_=>nV rfl _) (.ns _ _ _ N)).to (congrArg (92::·) (aR ..).symm) rfl
 |mark b x mm hl hb hx=>
  refine .out b (x++R) (s.a+1) (s.l+1) 0 (aR ..) ?_ ((k_.brk (hb R)).to (by rw[hl]) rfl)
  exact(NX hq P (hb R) (BX.sep (t:=x++R) (by rw[hR];exact kM) (hx R))).to (aR ..).symm (gv _)
theorem G9(hq:Qt d q)(h0:∀y∈text,(y==0)=af)(Jv:∃x r,tl=x::r):∀(ps:List Pc){s:Lr}{w:List Nat}{c:Sc},(∀p∈ps,de d p)→Ph s w→Pos c s.a s.l s.c→text.drop s.a++[0]=b_ ps++tl→Led d q s w c (b_ ps++tl) (b_ ps) tl (Lr.run text ps s)
 | [],s,w,c,_,P,hp,_=>QA hq P hp
 |p::ps,s,w,c,hb,P,hp,ht=>by
  have hR:∃x r,b_ ps++tl=x::r:=by
   obtain⟨x,r,e⟩:=Jv
   rw[e]
   cases b_ ps with
   |nil=>exact⟨x,r,rfl⟩
   |cons y z=>exact⟨y,_,rfl⟩
  obtain⟨x,r,hR⟩:=hR
  have ht:text.drop s.a++[0]=p.src++(b_ ps++tl):=ht.trans (aR ..)
  show Led d q s w c ((p.src++b_ ps)++tl) _ tl _
  rw[aR]
  refine aaR hq (hb p (.head _)) rfl hR h0 ht P hp λ{s1 w1} S P1 yx=>?_
  obtain⟨_,_,_,S⟩:=S
  exact G9 hq h0 Jv ps (λp hp=>hb p (.tail _ hp)) P1 yx (by rw[S];exact mO ht (by rw[hR];exact fE _ _))
end
noncomputable def bZ(s:Sc):V:=bu s.idx s.cI s.col
noncomputable def sY:List Nat:=[60,115,116,114,101,97,109,32,115,116,97,114,116,62]
noncomputable def JC:List Nat:=[60,98,108,111,99,107,32,101,110,100,62]
noncomputable def JE:List Nat:=[60,115,116,114,101,97,109,32,101,110,100,62]
noncomputable def tX(m:V):V:=.obj 278 [(ai "start_mark",m),(ai "end_mark",m),(ai "encoding",.none)]
inductive lM:V→V→Prop
 |Bt (s:Sc):lM (ey 302 s.mark s.mark) (d9 yB .none (bZ s) (bZ s))
 |be (s s' :Sc):lM (ey 410 s.mark s'.mark) (d9 [45] .none (bZ s) (bZ s'))
 |Bh (s:Sc):lM (ey 326 s.mark s.mark) (d9 JC .none (bZ s) (bZ s))
 |send (s:Sc):lM (ey 290 s.mark s.mark) (d9 JE .none (bZ s) (bZ s))
 |Ab (v:List Nat) (q:Nat) (s s' :Sc):lM (tS v q s s') (d9 sX (.tup [.str v,.bool af,.str [q]]) (bZ s) (bZ s'))
inductive Toks:List V→List V→Prop
 |nil:Toks [] []
 |cons {x y:V} {T Y:List V} (h:lM x y) (t:Toks T Y):Toks (x::T) (y::Y)
inductive gX:Sc→List V→Option (Sc×Sc)→Prop where
 |stop {s s' :Sc} (h:Gives fP [.ak] s (.ok .none) s'):gX s [] bg
 |err {s s' :Sc} {e:V} {s1 s2:Sc} (he:jG s1.mark s2.mark e) (h:Gives fP [.ak] s (.exc e) s'):gX s [] (ag (s1,s2))
 |tok {s s' :Sc} {x y:V} {l:List V} {f:Option (Sc×Sc)} (i:lM x y) (h:Gives fP [.ak] s (.ok x) s') (r:gX s' l f):gX s (y::l) f
noncomputable def xq(l:List V)(f:Option (Sc×Sc)):V:=.tup [.lst l,pO f .none λp=> .tup [bZ p.1,bZ p.2]]
inductive gY(S:Int→Sc)(D:List V)(v:V):Prop
 |mk (l:List V) (f:Option (Sc×Sc)) (o:∀tk,gX (S tk) l f) (e:v=xq (D++l) f)
noncomputable def rF(x:Lr⊕V):V:=wj x Lr.ended id
theorem MB(text:List Nat)(b:List Pc):∀(a:List Pc)(s:Lr),Lr.run text (a++b) s=wj (motive:=λ_=>Lr⊕V) (Lr.run text a s) (Lr.run text b) .inr
 | [],s=>rfl
 |p::a,s=>by
  show wj (motive:=λ_=>Lr⊕V) (s.step text p) (Lr.run text (a++b)) .inr=wj (motive:=λ_=>Lr⊕V) (wj (motive:=λ_=>Lr⊕V) (s.step text p) (Lr.run text a) .inr) (Lr.run text b) .inr
  cases s.step text p with
  |inl s' =>exact MB text b a s'
  |inr v=>rfl
section
variable{s:Sc}{d:Bool}{i:Int}{l r:List V}{a:Bool}{f:Option (Sc×Sc)}
theorem ET(h:∀tk,gX (s.w d [] tk i l a []) r f){T Y:List V}(t:Toks T Y):∀(tk:Int),T.length≤1000→gX (s.w d T tk i l a []) (Y++r) f:=by
 induction t with
 |nil=>exactλtk _=>h tk
 |cons x t ih=>exactλtk hl=> .tok x (I6 (wt hl)) (ih (tk+1) (wt hl))
theorem aam(tk:Int):gX (s.w ae [] tk i l a []) [] bg:=.stop U9
end
theorem gY.more{S S' :Int→Sc}{D Y:List V}{v:V}(h:gY S (D++Y) v)(g:∀l f,(∀tk,gX (S tk) l f)→∀tk,gX (S' tk) (Y++l) f):gY S' D v:=by
 obtain⟨l,f,o,e⟩:=h
 exact⟨Y++l,f,g l f o,by rw[e,aR]⟩
noncomputable def jk(q:Nat):Pc:=⟨.close,[q],[],0,1⟩
noncomputable def iI(bt:List Nat):Pc:=⟨.next,bt,[],0,0⟩
noncomputable def ka:Pc:=⟨.dash,[45,32],[],0,2⟩
noncomputable def gW(q:Nat):Pc:=⟨.start,[q],[],0,1⟩
noncomputable def zV:Pc:=⟨.order,[65279],[],0,0⟩
section
variable{d:Bool}{q:Nat}{t v u r1 t' :List Nat}
theorem Mj(hq:Qt d q):d=aH q 34:=by cases hq<;>rfl
theorem Mk(hq:Qt d q):ur q:=by cases hq<;>constructor
theorem dD.fs(hq:Qt d q)(h:dD d q t v u r1)(hr:r1≠[]):Fs q (q::t) v (q::(u++[q])) r1:=by
 have hd:=Mj hq
 induction h with
 |mk ms u r dZ u1 r1 h h1=>
  rw[aR]
  exact .mk _ ms u r dZ u1 r1 (hd▸h) (hd▸h1) hr
theorem WX.fs(hq:Qt d q)(h:WX d q t u t'):lL q (q::t) (q::u) t' :=by
 have hd:=Mj hq
 induction h with
 |ns u t' h=>exact .ns _ u t' (hd▸h)
 |fq ms u r u1 t' h h1=>exact .fl _ ms u r u1 t' (hd▸h) (hd▸h1)
end
theorem Pos.bZ{s:Sc}{a l c:Nat}(h:Pos s a l c):bZ s=bu a l c:=by
 obtain⟨h1,h2,h3⟩:=h
 unfold Mine.bZ
 rw[h1,h2,h3]
theorem Pos.vI{s:Sc}{a l c:Nat}(h:Pos s (a+1) l c):aI s.idx 0=af:=by
 obtain⟨h1,_,_⟩:=h
 rw[h1]
 exact decide_eq_false λe=>Z_ _ (LH e)
theorem MJ{s s3 s4:Sc}{x x' y:V}{i' l' c:Int}{m:V}{d:Bool}{T Y:List V}(hY:T.length≤10){i2:Int}{l2:List V}{a2:Bool}(ix:lM x x')(iy:Toks (y::T) Y)
 (h:∀tk,Gives fM [.ak] (s.w af [] tk 0 [.int (-1)] ae []) (.ok .none) (s3.w af [x] tk 0 [.int (-1)] af [(0,h_ tk af i' l' c m)]))
 (h2:∀T0 tk K,T0.length≤1→Key K→Gives fM [.ak] (s3.w af T0 tk 0 [.int (-1)] af K) (.ok .none) (s4.w d (T0++(y::T)) tk i2 l2 a2 [])) {r:List V} {f:Option (Sc×Sc)}
 (h3:∀tk,gX (s4.w d [] tk i2 l2 a2 []) r f) (tk:Int):gX (s.w af [] tk 0 [.int (-1)] ae []) (x' ::(Y++r)) f:=by
 have hl:T.length≤1000:=aL hY (bw rfl)
 have jM:(y::T).length≤1000:=aL (jy hY) (bw rfl)
 cases Vc jM (h tk) (h2 [x] tk _ (eF _) (.one _ _ _ _ _))with
 |inr e=>exact .tok ix e (ET h3 iy _ jM)
 |inl e=>
  refine .tok ix e ?_
  have q:=I5 hl (h2 [] (tk+1) [] (gx _) .no)
  cases iy with
  |cons i t=>exact .tok i q (ET h3 t _ hl)
noncomputable def Sc.qs(s:Sc)(tk:Int):Sc:=s.w af [] tk 0 [.int (-1)] ae []
inductive xk(s s1:Sc)(q:Nat)(X:List Nat):Prop
 |mk (sn:∀tk,Gives fk [.ak] (s.qs tk) (.ok .none) (s1.qs tk)) (col:1≤s1.col) (A:s1.aO (q::X)) (hl:(q::X).length≤400000)
noncomputable def Lr.gk(q:Nat)(s:Lr):Lr:=(s.cls (jk q)).mv (jk q)
inductive AE(σ:Lr)(s s1:Sc)(q:Nat)(r1:List Nat):Prop
 |mk (v:List Nat) (s3:Sc) (due:(σ.gk q).due=σ.due++[d9 sX (.tup [.str v,.bool af,.str [q]]) (bZ s1) (bZ s3)]) (pos:Pos s3 (σ.gk q).a (σ.gk q).l (σ.gk q).c) (A:s3.aO r1)
  (fm:∀tk,Gives fM [.ak] (s.qs tk) (.ok .none) (s3.w af [tS v q s1 s3] tk 0 [.int (-1)] af [(0,h_ tk af s1.idx s1.cI s1.col s1.mark)]))
section
variable{d:Bool}{q:Nat}{text:List Nat}{σ:Lr}{s s1 s3 s4:Sc}{X B r1 v:List Nat}
theorem H_{D:List V}{u t' :List Nat}{x y z:Nat}(hq:Qt d q)(I:xk s s1 q X)(e:X=u++t')(h:WX d q X u t')(p:Pos (aK u t' (aK [q] X s1)) x y z):gY s.qs D (.tup [.lst D,.tup [bZ s1,bu x y z]]):=by
 obtain⟨sn,col,A,hl⟩:=I
 refine⟨[],ag (s1,aK (q::u) t' s1),λtk=>?_,?_⟩
 ·obtain⟨ev,s',he,f⟩:=TG (sn tk) col (Mk hq) (WX.fs hq h) A hl
  exact .err he (U_ f)
 ·have eg:aK u t' (aK [q] X s1)=aK (q::u) t' s1:=by rw[e];rfl
  rw[eg]at p
  show _=V.tup [.lst (D++[]),.tup [bZ s1,bZ (aK (q::u) t' s1)]]
  rw[p.bZ,gv]
theorem E_(hq:Qt d q):mV [q]=ae∧width [q]=1∧jt [q]=af:=by cases hq<;>exact⟨rfl,rfl,rfl⟩
theorem BA(hq:Qt d q)(ps:List Pc):Lr.run text (jk q::ps) σ=Lr.run text ps (σ.gk q):=by
 show wj (motive:=λ_=>Lr⊕V) (σ.or text (jk q) _) (Lr.run text ps) .inr=_
 rw[LQ (Ng (E_ hq).2.2)];rfl
theorem aa9(q:Nat)(B r:List Nat):(q::(B++[q]))++r=q::(B++q::r):=congrArg (q::·) (aR ..)
theorem Q7(hq:Qt d q)(I:xk s s1 q (B++q::r1))(hr:r1≠[])(o:dD d q (B++q::r1) v B r1)(hp:Pos (aK B (q::r1) (aK [q] (B++q::r1) s1)) σ.a σ.l σ.c)(hv:σ.value++σ.held=v)(hs:σ.start=bZ s1):AE σ s s1 q r1:=by
 obtain⟨sn,col,A,hl⟩:=I
 obtain⟨f1,f2,_⟩:=E_ hq
 have eg:aK (q::(B++[q])) r1 s1=aK [q] r1 (aK B (q::r1) (aK [q] (B++q::r1) s1)):=by
  show aK (B++[q]) r1 (fO q ((B++[q])++r1) s1)=_
  rw[hJ,aR];rfl
 have vF:=hp.flat f1 r1
 rw[f2,←eg]at vF
 have vF:Pos (aK (q::(B++[q])) r1 s1) (σ.a+1) σ.l (σ.c+1):=vF
 refine⟨v,aK (q::(B++[q])) r1 s1,?_,vF,A.go (aa9 q B r1).symm hr,λtk=>TF (sn tk) col (Mk hq) (dD.fs hq o hr) A hl⟩
 rw[vF.bZ,←hs,←hv]
 show σ.due++[d9 sX (.tup [.str ((σ.value++σ.held)++[]),.bool af,.str [q]]) σ.start _]=_
 rw[gv]
noncomputable def HG(s:Sc):List V:=[ey 326 s.mark s.mark,ey 290 s.mark s.mark]
noncomputable def uV(s:Sc):List V:=[d9 JC .none (bZ s) (bZ s),d9 JE .none (bZ s) (bZ s)]
theorem Sa(s:Sc):Toks (HG s) (uV s):=.cons (.Bh s) (.cons (.send s) .nil)
theorem R_(hp:Pos s4 σ.a σ.l σ.c)(V5:∀T tk K,∃a,Gives fk [.ak] (s3.w af T tk 0 [.int (-1)] af K) (.ok .none) (s4.w af T tk 0 [.int (-1)] a K))(A:s4.aO [0])(T:List V)(tk:Int)(K:List (Int×V))(hT:T.length≤1)(hK:Key K):
 Gives fM [.ak] (s3.w af T tk 0 [.int (-1)] af K) (.ok .none) (s4.w ae (T++HG s4) tk (-1) [] af []):=by
 obtain⟨a,e⟩:=V5 T tk K
 obtain⟨_,_,h3⟩:=hp
 have:=Tz (aL hT (bw rfl)) e hK (by rw[h3];exact zR _) A
 rw[aR]at this
 exact this
theorem Sb(jL:σ.ins=af)(hp:Pos s4 σ.a σ.l σ.c):σ.ended=xq (σ.due++uV s4) bg:=by
 unfold Lr.ended uV
 rw[jL,hp.bZ];rfl
end
section
variable{d:Bool}{q:Nat}{text:List Nat}{σ:Lr}{s s1 s3 s4:Sc}{X B r1 v TL:List Nat}
theorem P0(hq:Qt d q):r0 q:=by cases hq<;>exact⟨rfl,rfl,rfl,rfl⟩
theorem aco:uA [32]:=λx hx=>by rw[List.mem_singleton.mp hx];rfl
theorem M8:uA []:=λ_ h=>nomatch h
inductive Told(d:Bool)(q:Nat)(text:List Nat)(σ:Lr)(s:Sc)(B TL:List Nat)(s1:Sc)(cO:Lr):Prop
 |mk (I:xk s s1 q (B++TL)) (due:cO.due=σ.due) (start:cO.start=bZ s1) (ins:cO.ins=ae) (pos:Pos (aK B TL (aK [q] (B++TL) s1)) cO.a cO.l cO.c) (ht:text.drop cO.a++[0]=TL)
  (hx:TL=[0]→WX d q (B++TL) B TL) (ho:∀r1,TL=q::r1→Nq r1→dD d q (B++TL) (cO.value++cO.held) B r1)
theorem MK{body ps:List Pc}(hq:Qt d q)(h0:∀y∈text,(y==0)=af)(hlen:text.length≤390000)(hb:∀p∈body,de d p)(A:s.aO (32::q::(b_ body++TL)))(Cx:∃x r,TL=x::r)(hi:aI s.idx 0=af)(hp:Pos (aK [32] (q::(b_ body++TL)) s) σ.a σ.l σ.c)(hc:1≤σ.c)(ht:text.drop σ.a++[0]=q::(b_ body++TL))
 (K:∀s1 cO,Told d q text σ s (b_ body) TL s1 cO→gY s.qs σ.due (rF (Lr.run text ps cO))):gY s.qs σ.due (rF (Lr.run text (gW q::(body++ps)) σ)):=by
 have A' :s.aO ([32]++q::(b_ body++TL)):=A
 have S0:um s ([32]++q::(b_ body++TL)):=.sG _ hi
 have I:xk s (aK [32] (q::(b_ body++TL)) s) q (b_ body++TL):=by
  refine⟨λtk=>A_ A' aco (P0 hq) S0,?_,A'.go rfl (fE _ _),?_⟩
  ·obtain⟨_,_,h3⟩:=hp
   rw[h3];exact Int.ofNat_le.mpr hc
  ·rw[←ht,bE,List.length_drop]
   exact aL (gw (aL (Nat.sub_le _ _) hlen) 1) (bw rfl)
 generalize aK [32] (q::(b_ body++TL)) s=s1 at I hp
 obtain⟨f1,f2,_⟩:=E_ hq
 have yx:=hp.flat f1 (b_ body++TL)
 rw[f2]at yx
 have hR:∃x r,b_ body++TL=x::r:=by
  obtain⟨x,r,e⟩:=Cx
  rw[e]
  cases b_ body with
  |nil=>exact⟨x,r,rfl⟩
  |cons y z=>exact⟨y,_,rfl⟩
 have fS:b_ body++TL≠[]:=by
  obtain⟨x,r,e⟩:=hR
  rw[e];exact fE _ _
 have Ju:text.drop (σ.uJ.mv (gW q)).a++[0]=b_ body++TL:=mO (src:=[q]) ht fS
 have L:=G9 (s:=σ.uJ.mv (gW q)) (w:=[]) hq h0 Cx body hb (Pn rfl rfl rfl) yx Ju
 show gY s.qs σ.due (rF (Lr.run text (body++ps) (σ.uJ.mv (gW q))))
 rw[MB]
 generalize Lr.run text body (σ.uJ.mv (gW q))=x at L
 induction L with
 |out u t' x y z e h p=>
  show gY s.qs σ.due (.tup [.lst σ.due,.tup [bu σ.a σ.l σ.c,bu x y z]])
  rw[←hp.bZ]
  exact H_ hq I e h p
 |go s' same p hx ho=>
  obtain⟨e1,e2,e3,e4⟩:=same
  have Di:text.drop s'.a++[0]=TL:=by
   rw[e4]
   refine mO Ju ?_
   obtain⟨x,r,e⟩:=Cx
   rw[e];exact fE _ _
  refine K s1 s' ⟨I,e1,e2.trans hp.bZ.symm,e3,p,Di,hx,λr1 e hn=>?_⟩
  obtain⟨v,o,ev⟩:=ho r1 e hn
  rw[ev];exact o
inductive Jj(bt mm:List Nat):Prop
 |mk (b:∀c t,aH c 10=af→cH bt mm (c::t)) (n:∀t,Nq (bt++t))
theorem Z1{D:List V}(hq:Qt d q)(hD:σ.due=D){cO:Lr}(T:Told d q text σ s B [0] s1 cO):gY s.qs D cO.ended:=by
 obtain⟨I,due,start,ins,pos,_,hx,_⟩:=T
 unfold Lr.ended
 rw[ins,due,start,hD]
 exact H_ hq I rfl (hx rfl) pos
theorem FN{cO:Lr}(hq:Qt d q)(T:Told d q text σ s B (q::r1) s1 cO)(hn:Nq r1):AE cO s s1 q r1:=by
 obtain⟨I,due,start,ins,pos,_,_,ho⟩:=T
 have hr:r1≠[]:=by cases hn;exact fE _ _
 exact Q7 hq I hr (ho r1 rfl hn) pos rfl start
theorem Kb{cO uf:Lr}{D:List V}(C:AE cO s s1 q r1)(hD:cO.due=D)(e1:uf.due=(cO.gk q).due)(e2:uf.ins=af)
 (h:∀s3,s3.aO r1→Pos s3 (cO.gk q).a (cO.gk q).l (cO.gk q).c→∃s4,s4.aO [0]∧Pos s4 uf.a uf.l uf.c∧∀T tk K,∃a,Gives fk [.ak] (s3.w af T tk 0 [.int (-1)] af K) (.ok .none) (s4.w af T tk 0 [.int (-1)] a K)):gY s.qs D uf.ended:=by
 obtain⟨v,s3,due,pos,A,fm⟩:=C
 obtain⟨s4,A4,p4,sn⟩:=h s3 A pos
 refine⟨_,bg,MJ (bw rfl) (.Ab v q s1 s3) (Sa s4) fm (λT0 tk K hT hK=>R_ p4 sn A4 T0 tk K hT hK) (λtk=>aam tk),?_⟩
 rw[Sb e2 p4,e1,due,hD]
 show xq ((D++[_])++uV s4) bg=xq (D++_::(uV s4++[])) bg
 rw[aR];rfl
theorem abY{D:List V}(hq:Qt d q)(hD:σ.due=D){cO:Lr}(T:Told d q text σ s B [q,0] s1 cO):gY s.qs D (cO.gk q).ended:=by
 have C:=FN hq T (.mk 0 [] rfl)
 obtain⟨_,due,_,_,_,_,_,_⟩:=T
 exact Kb C (due.trans hD) rfl rfl λs3 A pos=>⟨s3,A,pos,λT tk K=>⟨af,A_ (w:=[]) A M8 ⟨rfl,rfl,rfl,rfl⟩ (.sG _ pos.vI)⟩⟩
theorem YQ{D:List V}{bt mm:List Nat}(js:Jj bt mm)(hq:Qt d q)(hD:σ.due=D){cO:Lr}(T:Told d q text σ s B (q::(bt++[0])) s1 cO):gY s.qs D ((cO.gk q).nl (iI bt)).ended:=by
 obtain⟨hb,hn⟩:=js
 have C:=FN hq T (hn _)
 obtain⟨_,due,_,_,_,_,_,_⟩:=T
 have hB:=hb 0 [] rfl
 exact Kb C (due.trans hD) rfl rfl λs3 A pos=>⟨aK bt [0] s3,A.go rfl (fE _ _),pos.brk hB,λT tk K=>⟨ae,GO A hB ⟨rfl,rfl,rfl,rfl⟩ pos.vI⟩⟩
end
inductive j7 where
 |«open»|MV|next
structure Seg where
 d:Bool
 body:List Pc
noncomputable def bJ(d:Bool):Nat:=br d 34 39
theorem nL(d:Bool):Qt d (bJ d):=by cases d<;>constructor
noncomputable def jD(bt:List Nat)(e:j7):Nat→List Seg→List Pc
 |q,[]=>j7.casesOn e [] [jk q] [jk q,iI bt]
 |q,g::gs=>jk q::iI bt::ka::gW (bJ g.d)::(g.body++jD bt e (bJ g.d) gs)
theorem Fu:∀(a b:List Pc),b_ (a++b)=b_ a++b_ b
 | [],b=>rfl
 |p::a,b=>(congrArg (p.src++ ·) (Fu a b)).trans (aR ..).symm
noncomputable def restOf(bt:List Nat)(e:j7)(g:Seg)(gs:List Seg):List Nat:=b_ g.body++(b_ (jD bt e (bJ g.d) gs)++[0])
theorem adl(bt:List Nat)(e:j7)(q:Nat)(g:Seg)(gs:List Seg):b_ (jD bt e q (g::gs))++[0]=q::(bt++45::32::bJ g.d::restOf bt e g gs):=by
 show q::((bt++45::32::bJ g.d::b_ (g.body++jD bt e (bJ g.d) gs))++[0])=_
 rw[aR,Fu]
 show q::(bt++45::32::bJ g.d::((b_ g.body++b_ (jD bt e (bJ g.d) gs))++[0]))=_
 rw[aR];rfl
noncomputable def Lr.mL(s:Lr):Lr:=s.oO.mv ka
inductive AF(σ:Lr)(s s' :Sc)(q:Nat)(R:List Nat):Prop
 |mk (p5:Pos s' (σ.a+1) σ.l (σ.c+1)) (p6:Pos (aK [32] (q::R) s') σ.mL.a σ.mL.l σ.mL.c) (A:s'.aO (32::q::R))
theorem Hz{σ:Lr}{s:Sc}{q:Nat}{R:List Nat}(hp:Pos s σ.a σ.l σ.c)(A:s.aO (45::32::q::R)):AF σ s (aK [45] (32::q::R) s) q R:=
 have p5:=hp.over (x:=45) (t:=32::q::R) rfl
 ⟨p5,p5.over (x:=32) (t:=q::R) rfl,A.go (u:=[45]) rfl (fE _ _)⟩
noncomputable def uI(s s' :Sc):V:=d9 [45] .none (bZ s) (bZ s')
theorem Rw{σ:Lr}{s s' :Sc}{q:Nat}{R:List Nat}(hp:Pos s σ.a σ.l σ.c)(H:AF σ s s' q R)(h:aI (σ.due.length:Nat) 1=af):σ.mL.due=σ.due++[uI s s']:=by
 obtain⟨p5,_,_⟩:=H
 unfold uI
 rw[hp.bZ,p5.bZ]
 show br (aI (σ.due.length:Nat) 1) _ _++_=_
 rw[h];rfl
theorem Rx{σ:Lr}{s s' :Sc}{q:Nat}{R:List Nat}(hp:Pos s σ.a σ.l σ.c)(H:AF σ s s' q R)(h:aI (σ.due.length:Nat) 1=ae):σ.mL.due=(σ.due++[d9 yB .none (bZ s) (bZ s)])++[uI s s']:=by
 obtain⟨p5,_,_⟩:=H
 unfold uI
 rw[hp.bZ,p5.bZ]
 show br (aI (σ.due.length:Nat) 1) _ _++_=_
 rw[h];rfl
theorem NG(a:List Nat):∃x r,a++[0]=x::r:=by
 cases a with
 |nil=>exact⟨_,_,rfl⟩
 |cons x a=>exact⟨_,_,rfl⟩
theorem K2(q:Nat)(R:List Nat):aB ((45::32::q::R).take 3) [45,45,45]=af:=rfl
section
variable{text:List Nat}{bt mm:List Nat}
theorem ML(h0:∀y∈text,(y==0)=af)(hlen:text.length≤390000)(js:Jj bt mm)(e:j7):∀(gs:List Seg){g:Seg}{σ:Lr}{s:Sc},(∀p∈g.body,de g.d p)→(∀g' ∈gs,∀p∈g'.body,de g'.d p)→
 s.aO (32::bJ g.d::restOf bt e g gs)→aI s.idx 0=af→Pos (aK [32] (bJ g.d::restOf bt e g gs) s) σ.a σ.l σ.c→1≤σ.c→text.drop σ.a++[0]=bJ g.d::restOf bt e g gs→2≤σ.due.length→
 gY s.qs σ.due (rF (Lr.run text (gW (bJ g.d)::(g.body++jD bt e (bJ g.d) gs)) σ))
 | [],g,σ,s,hb,_,A,hi,hp,hc,ht,hD=>by
  refine MK (nL g.d) h0 hlen hb A (NG _) hi hp hc ht λs1 cO T=>?_
  cases e with
  |«open»=>exact Z1 (nL g.d) rfl T
  |MV=>exact(BA (nL g.d) [])▸abY (nL g.d) rfl T
  |next=>
   have T:Told g.d (bJ g.d) text σ s (b_ g.body) (bJ g.d::(bt++[0])) s1 cO:=by
    have e1:b_ (jD bt .next (bJ g.d) [])++[0]=bJ g.d::(bt++[0]):=by
     show bJ g.d::((bt++[])++[0])=_
     rw[gv]
    exact e1▸T
   exact(BA (nL g.d) [iI bt])▸YQ js (nL g.d) rfl T
 |g' ::gs,g,σ,s,hb,qJ,A,hi,hp,hc,ht,hD=>by
  refine MK (nL g.d) h0 hlen hb A (NG _) hi hp hc ht λs1 cO T=>?_
  rw[adl]at T
  show gY s.qs σ.due (rF (Lr.run text (jk (bJ g.d)::iI bt::ka::(gW (bJ g'.d)::(g'.body++jD bt e (bJ g'.d) gs))) cO))
  rw[BA (nL g.d)]
  show gY s.qs σ.due (rF (Lr.run text (gW (bJ g'.d)::(g'.body++jD bt e (bJ g'.d) gs)) ((cO.gk (bJ g.d)).nl (iI bt)).mL))
  obtain⟨Ja,hn⟩:=js
  have C:=FN (nL g.d) T (hn _)
  obtain⟨_,HF,_,_,_,Di,_,_⟩:=T
  obtain⟨v,s3,due,pos,A3,fm⟩:=C
  have hB:=Ja 45 (32::bJ g'.d::restOf bt e g' gs) rfl
  have A4:=A3.go (u:=bt) rfl (fE _ _)
  have p4:Pos (aK bt (45::32::bJ g'.d::restOf bt e g' gs) s3) ((cO.gk (bJ g.d)).nl (iI bt)).a ((cO.gk (bJ g.d)).nl (iI bt)).l ((cO.gk (bJ g.d)).nl (iI bt)).c:=pos.brk hB
  have sn:∀T tk K,Gives fk [.ak] (s3.w af T tk 0 [.int (-1)] af K) (.ok .none) ((aK bt (45::32::bJ g'.d::restOf bt e g' gs) s3).w af T tk 0 [.int (-1)] ae K):=λT tk K=>GO A3 hB ⟨rfl,rfl,rfl,rfl⟩ pos.vI
  generalize aK bt (45::32::bJ g'.d::restOf bt e g' gs) s3=s4 at A4 p4 sn
  have qI:=Hz p4 A4
  have d2:=Rw p4 qI (by
   show aI ((cO.gk (bJ g.d)).due.length:Nat) 1=af
   rw[due,HF,bE]
   exact decide_eq_false λe=>absurd hD (by have:=LH e;have:σ.due.length+1=1:=this;omega))
  generalize C0:aK [45] (32::bJ g'.d::restOf bt e g' gs) s4=s5 at qI d2
  obtain⟨p5,p6,A5⟩:=qI
  have d3:((cO.gk (bJ g.d)).nl (iI bt)).mL.due=σ.due++[d9 sX (.tup [.str v,.bool af,.str [bJ g.d]]) (bZ s1) (bZ s3),uI s4 s5]:=by
   rw[d2]
   show(cO.gk (bJ g.d)).due++_=_
   rw[due,HF,aR];rfl
  have t1:=mO (src:=[bJ g.d]) Di kM
  have t2:=mO t1 (fE _ _)
  have t3:=mO (src:=[45,32]) t2 (fE _ _)
  have O:=ML h0 hlen ⟨Ja,hn⟩ e gs (g:=g') (σ:=((cO.gk (bJ g.d)).nl (iI bt)).mL) (s:=s5) (qJ g' (.head _)) (λg2 h2=>qJ g2 (.tail _ h2)) A5 p5.vI p6 (cF 1 _) t3 (by rw[d3,bE];exact aL hD (dh _ _))
  rw[d3]at O
  refine O.more λl f o=>MJ (T:=[]) (gx _) (.Ab v (bJ g.d) s1 s3) (.cons (.be s4 s5) .nil) fm (λT0 tk K hT hK=>?_) o
  obtain⟨_,_,h3⟩:=p4
  exact C0▸TB (aL hT (bw rfl)) (sn T0 tk K) hK h3 A4 rfl (K2 ..)
end
noncomputable def z' (bt:List Nat)(e:j7)(g:Seg)(gs:List Seg):List Pc:=ka::gW (bJ g.d)::(g.body++jD bt e (bJ g.d) gs)
noncomputable def rowOf(ord:Bool)(bt:List Nat)(e:j7)(g:Seg)(gs:List Seg):List Pc:=br ord (zV::z' bt e g gs) (z' bt e g gs)
noncomputable def Sc.ts(T:List V)(s:Sc)(tk:Int):Sc:=s.w af T tk (-1) [] ae []
theorem Mp(bt:List Nat)(e:j7)(g:Seg)(gs:List Seg):b_ (z' bt e g gs)++[0]=45::32::bJ g.d::restOf bt e g gs:=by
 show 45::32::bJ g.d::(b_ (g.body++jD bt e (bJ g.d) gs)++[0])=_
 rw[Fu,aR];rfl
section
variable{text:List Nat}{bt mm:List Nat}{e:j7}{g:Seg}{gs:List Seg}
theorem Ib(h0:∀y∈text,(y==0)=af)(hlen:text.length≤390000)(js:Jj bt mm)(hb:∀p∈g.body,de g.d p)(qJ:∀g' ∈gs,∀p∈g'.body,de g'.d p){σ:Lr}{s s1:Sc}
 (hs:∀tk,Gives fk [.ak] (s.ts [] tk) (.ok .none) (s1.ts [] tk)) (hp:Pos s1 σ.a σ.l σ.c) (hc:σ.c=0) (A:s1.aO (45::32::bJ g.d::restOf bt e g gs)) (ht:text.drop σ.a++[0]=45::32::bJ g.d::restOf bt e g gs) (hD:σ.due.length=1):gY (s.ts []) σ.due (rF (Lr.run text (z' bt e g gs) σ)):=by
 have qI:=Hz hp A
 have d2:=Rx hp qI (by rw[hD];rfl)
 generalize C0:aK [45] (32::bJ g.d::restOf bt e g gs) s1=s5 at qI d2
 obtain⟨p5,p6,A5⟩:=qI
 have t3:=mO (src:=[45,32]) ht (fE _ _)
 have O:=ML h0 hlen js e gs (g:=g) (σ:=σ.mL) (s:=s5) hb qJ A5 p5.vI p6 (cF 1 _) t3 (by rw[d2,bE,bE];exact cF _ _)
 rw[d2,aR]at O
 refine O.more λl f o tk=>?_
 obtain⟨_,_,h3⟩:=hp
 have fm:=TA (T:=[]) (gx _) (hs tk) .no (h3.trans (congrArg _ hc)) A rfl (K2 ..)
 rw[C0]at fm
 exact .tok (.Bt s1) (I5 (bw rfl) fm) (ET o (.cons (.be s1 s5) .nil) _ (bw rfl))
theorem adG{ord:Bool}{text:List Nat}(vH:b_ (rowOf ord bt e g gs)=text)(h0:∀y∈text,(y==0)=af)(hlen:text.length≤390000)(js:Jj bt mm)(hb:∀p∈g.body,de g.d p)(qJ:∀g' ∈gs,∀p∈g'.body,de g'.d p){s:Sc}(hp:Pos s 0 0 0)(A:s.aO (text++[0])):
 gY (s.ts []) Lr.init.due (tQ text (rowOf ord bt e g gs)):=by
 rw[←vH]at A
 have ht:text.drop 0++[0]=b_ (rowOf ord bt e g gs)++[0]:=by rw[vH];rfl
 clear vH
 cases ord with
 |false=>
  have ea:b_ (rowOf af bt e g gs)++[0]=_:=Mp bt e g gs
  rw[ea]at A ht
  exact Ib h0 hlen js hb qJ (σ:=Lr.init) (s1:=s) (λtk=>A_ (w:=[]) A M8 ⟨rfl,rfl,rfl,rfl⟩ (.sign _ _ rfl)) hp rfl A ht rfl
 |true=>
  have ea:b_ (rowOf ae bt e g gs)++[0]=65279::_:=congrArg (65279::·) (Mp bt e g gs)
  rw[ea]at A ht
  have h1:aI s.idx 0=ae:=by
   obtain⟨h,_,_⟩:=hp
   rw[h];rfl
  exact Ib h0 hlen js hb qJ (σ:=Lr.init.mv zV) (s1:=aK [65279] (45::32::bJ g.d::restOf bt e g gs) s) (λtk=>PM A ⟨rfl,rfl,rfl,rfl⟩ h1) (hp.over (x:=65279) (t:=45::32::bJ g.d::restOf bt e g gs) rfl) rfl (A.go (u:=[65279]) rfl (fE _ _)) (mO (src:=[65279]) ht (fE _ _)) rfl
end
def tb:Fn:=dO (GW (cS "_is_printable") [] [] 2) (aU (cS "_is_printable")) (bN [fL])
noncomputable def Ew:List Nat:=[9,10,13,32,33,34,35,39,45,46,47,48,49,50,51,52,53,54,55,56,57,58,65,66,67,68,69,70,76,78,80,85,88,92,95,97,98,99,100,101,102,103,110,113,114,116,117,118,120,133,233,8232,8233,65279,128512]
noncomputable def nE(c:Nat):Bool:=Ew.contains c
def JR:Fn:=λargs aE self k=>Tt (isNil aE) (Ob (one args) λv=>Ob v.s? λs=>Ob (one s) λc=>Tt (nE c) (k (.ok (.bool ae)) self))
noncomputable def yd:List (aQ×Fn):=[(130,JR)]
noncomputable def sq:aG:=bh "Reader" "check_printable"
noncomputable def g0:aG:=eU (cC (aU sq)) 0
noncomputable def xM:aX:=GW sq yd [] 3
def uR:V→aq→au:=ft xM (eI g0) (bS g0)
def xN:Lp:=IE xM (eI g0) (xF (eX g0)) (uO (eX g0)) (uN (eX g0)) (bS g0)
def Hw:Fn:=dO (GW sq yd [(g0.pos.line,xN)] 3) (aU sq) (bN [b9,ai "data"])
noncomputable def BE(self:Self)(s:FV):aq:=⟨[(b9,.v .ak),(ai "data",s)],self,af⟩
noncomputable def BG(self:Self)(s x y:FV):aq:=⟨[(b9,.v .ak),(ai "data",s),(ai "start",x),(ai "character",y)],self,af⟩
theorem WM{c:Nat}{self:Self}{k:Res→Self→au}(h1:(ax [9,10,13,133] c)=ae){r:R}(hk:Gv (k (.ok (V.bool (ax [9,10,13,133] c))) self) r):Gv (tb [.str [c]] [] self k) r:=by
 obtain⟨p,hk⟩:=hk
 exact Gv.of (ae::p) (by kernel_rfl) (aj h1 hk)
theorem WN{c:Nat}{self:Self}{k:Res→Self→au}(h1:(ax [9,10,13,133] c)=af)(h2:(aJ 32 c)=ae)(h3:(aJ c 126)=ae){r:R}(hk:Gv (k (.ok (V.bool (aJ c 126))) self) r):Gv (tb [.str [c]] [] self k) r:=by
 obtain⟨p,hk⟩:=hk
 exact Gv.of (af::ae::ae::p) (by kernel_rfl) (aj h1 (aj h2 (aj h3 hk)))
theorem WO{c:Nat}{self:Self}{k:Res→Self→au}(h1:(ax [9,10,13,133] c)=af)(h2:(aJ 32 c)=ae)(h3:(aJ c 126)=af)(h4:(aJ 160 c)=ae)(h5:(aJ c 55295)=ae){r:R}(hk:Gv (k (.ok (V.bool (aJ c 55295))) self) r):Gv (tb [.str [c]] [] self k) r:=by
 obtain⟨p,hk⟩:=hk
 exact Gv.of (af::ae::af::ae::ae::p) (by kernel_rfl) (aj h1 (aj h2 (aj h3 (aj h4 (aj h5 hk)))))
theorem WQ{c:Nat}{self:Self}{k:Res→Self→au}(h1:(ax [9,10,13,133] c)=af)(h2:(aJ 32 c)=ae)(h3:(aJ c 126)=af)(h4:(aJ 160 c)=ae)(h5:(aJ c 55295)=af)(h6:(aJ 57344 c)=ae)(h7:(aJ c 65533)=ae){r:R}(hk:Gv (k (.ok (V.bool (aJ c 65533))) self) r):Gv (tb [.str [c]] [] self k) r:=by
 obtain⟨p,hk⟩:=hk
 exact Gv.of (af::ae::af::ae::af::ae::ae::p) (by kernel_rfl) (aj h1 (aj h2 (aj h3 (aj h4 (aj h5 (aj h6 (aj h7 hk)))))))
theorem WR{c:Nat}{self:Self}{k:Res→Self→au}(h1:(ax [9,10,13,133] c)=af)(h2:(aJ 32 c)=ae)(h3:(aJ c 126)=af)(h4:(aJ 160 c)=ae)(h5:(aJ c 55295)=af)(h6:(aJ 57344 c)=ae)(h7:(aJ c 65533)=af)(h8:(aJ 65536 c)=ae){r:R}(hk:Gv (k (.ok (V.bool (aJ c 1114111))) self) r):Gv (tb [.str [c]] [] self k) r:=by
 obtain⟨p,hk⟩:=hk
 exact Gv.of (af::ae::af::ae::af::ae::af::ae::p) (by kernel_rfl) (aj h1 (aj h2 (aj h3 (aj h4 (aj h5 (aj h6 (aj h7 (aj h8 hk))))))))
theorem Rk{i:Int}{c:Nat}{s:V}{self:Self}(h1:(nE c)=ae){r:R}(hr:r=(.next,⟨[((ai "self"),(.v V.ak)),((ai "data"),(.v s)),((ai "start"),(.v (V.int i))),((ai "character"),(.v (V.str ([c]))))],self,af⟩)):Gv (uR (.tup [.int i,.str [c]]) (BE self (.v s))) r:=
 Gv.of (af::[]) (by kernel_rfl) (aM h1 (aj tF hr))
theorem Rm{i:Int}{c:Nat}{s:V}{x y:FV}{self:Self}(h1:(nE c)=ae){r:R}(hr:r=(.next,⟨[((ai "self"),(.v V.ak)),((ai "data"),(.v s)),((ai "start"),(.v (V.int i))),((ai "character"),(.v (V.str ([c]))))],self,af⟩)):Gv (uR (.tup [.int i,.str [c]]) (BG self (.v s) x y)) r:=
 Gv.of (af::[]) (by kernel_rfl) (aM h1 (aj tF hr))
theorem Rg{s:List Nat}{self:Self}{k:Res→Self→au}{r:R}(h:Gv (iH (dk uR (lR 0 s) (BE self (.v (.str s)))) (jY (GW sq yd [(g0.pos.line,xN)] 3) 59 (mP k))) r):Gv (Hw [.ak,.str s] [] self k) r:=by
 obtain⟨p,h⟩:=h
 exact Gv.of p (by kernel_rfl) h
noncomputable def p1(c:Nat):Bool:=ax [9,10,13,133] c
noncomputable def p2(c:Nat):Bool:=!(p1 c)&&(aJ 32 c&&aJ c 126)
noncomputable def p5(c:Nat):Bool:=!(p1 c)&&(aJ 32 c&& !(aJ c 126))&&aJ 160 c
noncomputable def p6(c:Nat):Bool:=!(aJ c 55295)&&aJ 57344 c
noncomputable def pB(c:Nat):Bool:=p1 c||(p2 c||(p5 c&&(aJ c 55295||(p6 c&&(aJ c 65533||(!(aJ c 65533)&&(aJ 65536 c&&aJ c 1114111)))))))
theorem ZR{c:Nat}(h:nE c=ae):pB c=ae:=List.all_eq_true.mp (show Ew.all pB=ae by kernel_rfl) c (List.contains_iff_mem.mp h)
theorem WT{c:Nat}(h:nE c=ae){self:Self}{k:Res→Self→au}{r:R}(g:Gv (k (.ok (.bool ae)) self) r):Gv (tb [.str [c]] [] self k) r:=by
 cases wy (ZR h)with
 |inl h=>exact WM h (by rw[show ax [9,10,13,133] c=ae from h];exact g)
 |inr h=>cases wy h with
  |inl h=>
   obtain⟨h1,h⟩:=aF h
   obtain⟨h2,h3⟩:=aF h
   exact WN (dM h1) h2 h3 (by rw[h3];exact g)
  |inr h=>
   obtain⟨h,h7⟩:=aF h
   obtain⟨h,h4⟩:=aF h
   obtain⟨h1,h⟩:=aF h
   obtain⟨h2,h3⟩:=aF h
   cases wy h7 with
   |inl h5=>exact WO (dM h1) h2 (dM h3) h4 h5 (by rw[h5];exact g)
   |inr h=>
    obtain⟨h,h8⟩:=aF h
    obtain⟨h5,h6⟩:=aF h
    cases wy h8 with
    |inl h9=>exact WQ (dM h1) h2 (dM h3) h4 (dM h5) h6 h9 (by rw[h9];exact g)
    |inr h=>
     obtain⟨h9,h⟩:=aF h
     obtain⟨aY,cq⟩:=aF h
     exact WR (dM h1) h2 (dM h3) h4 (dM h5) h6 (dM h9) aY (by rw[cq];exact g)
noncomputable def kl(s:List Nat):Bool:=s.all nE
theorem Hy{s:V}{self:Self}:∀(t:List Nat)(i:Nat)(x y:FV),kl t=ae→∃x' y',Gv (dk uR (lR i t) (BG self (.v s) x y)) (.next,BG self (.v s) x' y')
 | [],i,x,y,_=>⟨x,y,lX⟩
 |c::t,i,x,y,h=>by
  obtain⟨h1,h2⟩:=aF h
  obtain⟨x',y',e⟩:=Hy t (i+1) _ _ h2
  exact⟨x',y',kg (Rm h1 rfl) e⟩
theorem Rh{s:V}{self:Self}(t:List Nat)(h:kl t=ae):∃st:aq,st.self=self∧st.free=af∧Gv (dk uR (lR 0 t) (BE self (.v s))) (.next,st):=by
 cases t with
 |nil=>exact⟨_,rfl,rfl,lX⟩
 |cons c t=>
  obtain⟨h1,h2⟩:=aF h
  obtain⟨x',y',e⟩:=Hy (s:=s) (self:=self) t 1 _ _ h2
  exact⟨_,rfl,rfl,kg (Rk h1 rfl) e⟩
theorem Rj{s:List Nat}(h:kl s=ae){self:Self}{k:Res→Self→au}{r:R}(g:Gv (k (.ok .none) self) r):Gv (Hw [.ak,.str s] [] self k) r:=by
 obtain⟨st,h1,h2,e⟩:=Rh (s:=.str s) (self:=self) s h
 refine Rg (y_ e ?_)
 show Gv (Ff st.free (xO k .next st.self)) r
 rw[h1,h2]
 exact g
inductive Prints:List V→Prop
 |mk (s:List Nat) (h:kl s=ae):Prints [.ak,.str s]
def Hx:Fn:=λargs aE self k=>Tt (isNil aE) λp r=>Prints args∧k (.ok .none) self p r
section
variable{W:Wd}(hK:W.K=K W.w.params)
include hK
theorem WS:bH W (FX W) 3 ae 130 JR:=(fN hK cK.nil (Om hK) (D:=2) (by decide) (by kernel_rfl)).says λargs aE self k r h=>by
 refine bF h λhk h=>a_ h λv hv h=>a_ h λs hs h=>a_ h λc hc h=>bF h λho h=>?_
 rw[c_ hk,dN hv,jc hs,dN hc]
 exact WT ho h
theorem Iz:cK W 3 yd:=cK.nil.cons (cE hK (by kernel_rfl)) (WS hK) (by decide)
theorem Ri:bH W (FX W) 4 ae 182 Hx:=(g9 hK (bnd:=bN [b9,ai "data"]) (Ov hK) (D:=3) (by decide) (Iz hK) (loops:=[(g0.pos.line,xN)]) (jQ (G:=xM) (F:=xN) (cA:=.For (eI g0) (.Call (.Name (xF (eX g0)) (uO (eX g0))) [uN (eX g0)] [] (xG (eX g0))) (bS g0) [] g0.pos) (by kernel_rfl) (by kernel_rfl) (bY.o6 (G:=xM) (l:=[]) (T2 (mD hK sq [] (by decide) (Iz hK)) (ji W) (rC W) rfl (l_ (by kernel_rfl)))))).says λargs aE self k r h=>by
 refine bF h λhk h=>?_
 rw[c_ hk]
 obtain⟨p,h1,g⟩:=h
 clear h
 induction h1 with
 |mk s ho=>exact Rj ho ⟨p,g⟩
end
noncomputable def Mq:aG:=bh "Reader" "__init__"
noncomputable def TR:List (aQ×Fn):=[(182,Hx)]
def Fe:Fn:=dO (GW Mq TR [] 4) (aU Mq) (bN [b9,ai "stream"])
noncomputable def NQ:List Nat:=[60,117,110,105,99,111,100,101,32,115,116,114,105,110,103,62]
noncomputable def yf(t:List Nat):FS:=[(n0,.v (.str NQ)),(n1,.v .none),(n2,.v (.int 0)),(n3,.v (.bool ae)),(n4,.v (.str (t++[0]))),(n5,.v (.int 0)),(n6,.v .none),(n7,.v .none),(n8,.v .none),(n9,.v (.int 0)),(zk,.v (.int 0)),(zl,.v (.int 0))]
def IY:Fn:=dO (GW (bh "Reader" "get_mark") [] [] 2) (aU (bh "Reader" "get_mark")) (bN [b9])
noncomputable def TU:List (aQ×Fn):=[(175,IY)]
def IQ:Fn:=dO (GW (mS "fetch_stream_start") TU [] 3) (aU (mS "fetch_stream_start")) (bN [b9])
noncomputable def TS:List (aQ×Fn):=[(636,IQ)]
noncomputable def m_:aG:=mS "__init__"
noncomputable def JI:aX:=GW m_ TS [] 5
noncomputable def Ds:List aG:=(aU m_).drop 1
noncomputable def rG(t:List Nat):Sc:=⟨NQ,0,ae,t++[0],0,0,0,0,af,0,[],0,-1,[],ae,[]⟩
noncomputable def Aa(t:List Nat):Sc:=(rG t).ts [tX (rG t).mark] 0
noncomputable def Aq:Str:=ai "stream"
noncomputable def Dr(t:List Nat):List (Str×V):=[(b9,.ak),(Aq,.str t)]
theorem ri0{t:List Nat}{k:Res→Self→au}(h1:(Prints [V.ak,(V.str t)]))(h2:(aJ (av t+1) 16777216)=ae){r:R}(hk:Gv (k (.ok V.none) (ag (1048,[((ai "name"),(.v (V.str (sL "<unicode string>")))),((ai "stream"),(.v V.none)),((ai "stream_pointer"),(.v (V.int 0))),((ai "eof"),(.v (V.bool ae))),((ai "buffer"),(.v (V.str (bp t [0])))),((ai "pointer"),(.v (V.int 0))),((ai "raw_buffer"),(.v V.none)),((ai "raw_decode"),(.v V.none)),((ai "encoding"),(.v V.none)),((ai "index"),(.v (V.int 0))),((ai "line"),(.v (V.int 0))),((ai "column"),(.v (V.int 0)))]))) r):Gv (Fe [.ak,.str t] [] (ag (1048,[])) k) r:=by
 obtain⟨p,hk⟩:=hk
 exact Gv.of (ae::p) (by kernel_rfl) (aj tT (aj h1 (aM h2 hk)))
noncomputable def Dq(t:List Nat):R:=(.next,⟨eB (Dr t),ag (1048,(Aa t).fs),ae⟩)
theorem Ww(t:List Nat):Gv (aN JI 60 Ds ⟨eB (Dr t),ag (1048,yf t),ae⟩ (λo st=>leaf (o,st))) (Dq t):=Gv.of [ae] (E:=ae=ae∧Dq t=Dq t) (by kernel_rfl) ⟨rfl,rfl⟩
theorem abp{t:List Nat}(h:kl t=ae)(hl:t.length≤1000000):Gv (Fe [.ak,.str t] [] (ag (1048,[])) bA) (ky (.ok .none) (ag (1048,yf t))):=ri0 (.mk t h) (zN (aL (jy hl) (bw rfl))) (Gv.leaf _)
noncomputable def SO(s:aG):aw:=j4 s.ctorIdx 24 (λh=>Stmt.Expr.elim (motive_2:=λ_=>aw) s h λe _=>e)|>.getD ny
noncomputable def SP(s:aG):zG:=oe (j4 s.ctorIdx 24 λh=>Stmt.Expr.elim (motive_2:=λ_=>zG) s h λ_ p=>p) id ⟨0,0,0,0⟩
noncomputable def Bw(e:aw):aw:=oe (qq e) (·.1) ny
noncomputable def GU(e:aw):aw:=oe (oH e) (·.1) ny
noncomputable def PO(e:aw):zG:=oe (oH e) (·.2.2) ⟨0,0,0,0⟩
noncomputable def vK:aw:=SO (eU (aU m_) 0)
noncomputable def Ws:aG:=.Expr (.Call (.Attribute (.Call (.Name "super" (uO (GU (Bw vK)))) [] [] (xG (GU (Bw vK)))) "__init__" (PO (Bw vK))) [.Name Aq (NB (uN vK))] [] (xG vK)) (SP (eU (aU m_) 0))
theorem Wu:aU m_=Ws::Ds:=by kernel_rfl
noncomputable def Wr:Arg:=List.headD (jl m_).args ⟨b9,bg,⟨0,0,0,0⟩⟩
noncomputable def ad3:Array ao:=#[(.str (ai "__init__") 1010),(.str (ai "Scanner.__init__") 1011),(.str (ai "/claim/cut.py") 1012),(.int (238) 0),(.int (2) 0),(.int (0) 0),(.int (0) 0),(.int (3) 0),(.ref 544),(.bool ae),(.int (181) 0),(.ref 545),.none,(.ref 546),(.ref 547),(.ref 548),(.int (1016) 0),(.int (238) 0),(.str (ai "/claim/cut.py") 1017)]
section
variable{W:Wd}(hK:W.K=K W.w.params)(hP:W.prog=pw)
include hK
theorem U5:bH W (FX W) 3 ae 175 IY:=fN hK cK.nil (Gj hK) (D:=2) (by decide) (by kernel_rfl)
theorem Un:bH W (FX W) 4 ae 636 IQ:=fN hK (cK.nil.cons (cE hK (by kernel_rfl)) (U5 hK) (by decide)) (ON hK) (D:=3) (by decide) (by kernel_rfl)
theorem abo:bH W (FX W) 5 ae 144 Fe:=fN hK (cK.nil.cons (cE hK (by kernel_rfl)) (Ri hK) (by decide)) (Oo hK) (D:=4) (by decide) (by kernel_rfl)
theorem abn{t:List Nat}(h:kl t=ae)(hl:t.length≤1000000):om W (FX W) 5 ae 144 [.ak,.str t] [] (ag (1048,[])) (.ok .none) (ag (1048,yf t)):=by
 obtain⟨r',dC,h1,h2⟩:=abo hK [.ak,.str t] [] (ag (1048,[])) bA _ (abp h hl)
 obtain⟨e1,e2⟩:=LW (So h2)
 rw[←e1,←e2]at h1
 exact h1
include hP
theorem Wv{t:List Nat}(h:kl t=ae)(hl:t.length≤1000000):AJ W 6 ae 550 [.ak,.str t] (ag (1048,[])) (ag (1048,(Aa t).fs)):=by
 obtain⟨xH,hD⟩:∃c,clsIn W.K 1048=ag c:=Option.isSome_iff_exists.mp (by rw[hK];kernel_rfl)
 obtain⟨_,_,_,_,_,_,_,_,_,_,_,_,_,_,_,_,co,gen,kind,cell,sr,_⟩:=OC hK
 exact WD (bnd:=bN []) (C:=1048) (fI:=550) (fR:=144) (D:=1048) (cc:=538) (cda:=549) (G:=JI) (v0:=Aq) (y0:=.str t) (sO:=yf t) (ar:=Wr) (loc:=Dr t) (ys:=[.str t]) (more:=Ds) (scope:=bP m_) (params:=jl m_) (dV:=.none) (kV:=.none) (doc:=.none) (pm:=(.str (ai "yaml.scanner") 941)) (an:=bg) (ct:=.ref 543) (name:=ai "__init__") (qual:=ai "Scanner.__init__") (oc:=.type "function") (od:=bg) (osl:=#[]) (vs:=ad3) (ccl:=.type "code") (cdd:=bg) (ccs:=#[]) (xI:=.type "cell") (cld:=bg) (csl:=#[]) (file:=ai "/claim/cut.py") (tf:=1012) Wu
  (fi hK (by kernel_rfl)) (by rw[hK];kernel_rfl) co gen kind cell sr (j_ (n:=2) (kn:=[]) (src:=wR 0 [b9,Aq]) (by kernel_rfl) (λv s _=>zJ (by kernel_rfl)) (by kernel_rfl)) (by kernel_rfl) (by kernel_rfl) (fi hK (by kernel_rfl)) (by kernel_rfl) (by rw[hP];kernel_rfl) (fi hK (by kernel_rfl)) hD (by rw[hK];kernel_rfl) (by rw[hK];kernel_rfl)
  (by kernel_rfl) (by kernel_rfl) (by kernel_rfl) (by rw[hP];kernel_rfl) (by kernel_rfl) (by rw[hK];kernel_rfl) (by rw[hK];kernel_rfl) (by rw[hK];kernel_rfl) (by rw[hK];kernel_rfl)
  (mD hK m_ [] (by decide) (cK.nil.cons (cE hK (by kernel_rfl)) (Un hK) (by decide))) (ji W) rfl (λy=>l9 y _) (l_ (by kernel_rfl)) (by kernel_rfl) (by kernel_rfl) (by kernel_rfl) (abn hK h hl) (Ww t)
end
noncomputable def q7:aG:=cS "law"
noncomputable def Iw:List (aQ×Fn):=[(1107,LX),(1121,Mo),(1100,con jH),(573,wx fP id),(1128,EY)]
noncomputable def bB(loops:List (Nat×Lp)):aX:={GW q7 Iw loops 14 with calm:=[(1128,EY)],top:=ae}
noncomputable def cJ:List aG:=aU q7
noncomputable def eQ:aG:=eU (cC cJ) 0
def Ky:V→aq→au:=ft (bB []) (eI eQ) (bS eQ)
def ze:Lp:=forL (bB []) (eI eQ) (eX eQ) (bS eQ)
def za(F:Lp):Lp:=λst k p r=>∃l:FS,Gv (F st pk) (.next,⟨l,bg,af⟩)∧k .next ⟨l,bg,af⟩ p r
noncomputable def fj:aG:=eU (cC cJ) 1
def tA:aq→au:=gE (bB []) (fK fj) (bS fj)
noncomputable def cX:List (Nat×Lp):=[(eQ.pos.line,za ze),(fj.pos.line,Az (bB []) (fK fj) (bS fj))]
noncomputable def nv(nU nZ:FV):aq:=⟨[(ai "script",nU),(ai "tape",nZ)],bg,af⟩
noncomputable def fU(nU nZ head qv quote between row closed:FV):aq:=⟨[(ai "script",nU),(ai "tape",nZ),(ai "head",head),(ai "double",qv),(ai "quote",quote),(ai "between",between),(ai "row",row),(ai "closed",closed)],bg,af⟩
noncomputable def gT(nU nZ head qv quote between row closed n:FV):aq:=⟨[(ai "script",nU),(ai "tape",nZ),(ai "head",head),(ai "double",qv),(ai "quote",quote),(ai "between",between),(ai "row",row),(ai "closed",closed),(ai "n",n)],bg,af⟩
noncomputable def tw(nU nZ head qv quote between row closed text due refused:FV):aq:=⟨[(ai "script",nU),(ai "tape",nZ),(ai "head",head),(ai "double",qv),(ai "quote",quote),(ai "between",between),(ai "row",row),(ai "closed",closed),(ai "text",text),(ai "due",due),(ai "refused",refused)],bg,af⟩
noncomputable def tx(nU nZ head qv quote between row closed n text due refused:FV):aq:=⟨[(ai "script",nU),(ai "tape",nZ),(ai "head",head),(ai "double",qv),(ai "quote",quote),(ai "between",between),(ai "row",row),(ai "closed",closed),(ai "n",n),(ai "text",text),(ai "due",due),(ai "refused",refused)],bg,af⟩
noncomputable def zf(s:Sc)(due refused:FV):aq:=⟨[(ai "due",due),(ai "refused",refused),(ai "scanner",.v .ak)],ak s,af⟩
noncomputable def Ku(s:Sc)(due refused rH got rS:FV):aq:=⟨[(ai "due",due),(ai "refused",refused),(ai "scanner",rH),(ai "got",got),(ai "trouble",rS)],ak s,af⟩
noncomputable def rb(s:Sc)(due refused rH got rS token:FV):aq:=⟨[(ai "due",due),(ai "refused",refused),(ai "scanner",rH),(ai "got",got),(ai "trouble",rS),(ai "token",token)],ak s,af⟩
noncomputable def dK(s:Sc)(due refused rH got rS token told:FV):aq:=⟨[(ai "due",due),(ai "refused",refused),(ai "scanner",rH),(ai "got",got),(ai "trouble",rS),(ai "token",token),(ai "told",told)],ak s,af⟩
noncomputable def D9(due refused rH got rS token told:FV):aq:=⟨[(ai "due",due),(ai "refused",refused),(ai "scanner",rH),(ai "got",got),(ai "trouble",rS),(ai "token",token),(ai "told",told)],bg,af⟩
noncomputable def NK:aG:=eU cJ 15
noncomputable def NJ(s:aG):Option (List aG×List ExceptHandler):=j4 s.ctorIdx 17 λh=>Stmt.Try.elim (motive_2:=λ_=>List aG×List ExceptHandler) s h λb hs _ _ _=>(b,hs)
noncomputable def wZ:List aG:=oe (NJ NK) (·.1) []
noncomputable def adJ:Hand:=oe (ob (NJ NK) λq=>handOf q.2) id ⟨b9,b9,b9,ny⟩
def D7(k:Out→aq→au):Out→aq→au:=λo st=>qz o (λy=>si (bB cX) adJ y st k) λo=>k o st
noncomputable def n_:List aG:=(bS fj).take 2
noncomputable def wY:List aG:=(bS fj).drop 2
theorem a0{x:FV}{b:List Nat}{k:Out→aq→au}{r:R}(hk:Gv (k .next (fU x (.v (V.lst [])) (.v (V.int 0)) (.v (V.bool ae)) (.v (V.str [34])) (.v (V.str [10])) (.own [(V.tup [(V.str [100,97,115,104]),(V.str [45,32]),(V.str []),(V.int 2)]),(V.tup [(V.str (sL "start")),(V.str [34]),(V.str []),(V.int 1)])]) (.v (V.int 0)))) r):Gv (aN (bB cX) 59 ((cJ.drop 1).take 7) (nv x (.v (.lst []))) k) r:=by
 obtain⟨p,hk⟩:=hk
 exact Gv.of (af::ae::af::p) (by kernel_rfl) (aj tF (aj tT (aj tF hk)))
theorem PC{x:FV}{h:Int}{l:List V}{b:List Nat}{k:Out→aq→au}(h2:(aJ (av (V.int h::l)) aZ)=ae)(h3:(aI (h%2) 0)=ae)(h5:(bx (V.lst jH) (V.int (h/12%5)))=ag (V.str b))(h6:(aI (h/6%2) 1)=ae){r:R}(hk:Gv (k .next (fU x (.v (V.lst ((V.int h)::l))) (.v (V.int h)) (.v (V.bool (aI (h%2) 0))) (.v (V.str [34])) (.v (V.str b)) (.own [(V.tup [(V.str (sL "order")),(V.str [65279]),(V.str []),(V.int 0)]),(V.tup [(V.str [100,97,115,104]),(V.str [45,32]),(V.str []),(V.int 2)]),(V.tup [(V.str (sL "start")),(V.str [34]),(V.str []),(V.int 1)])]) (.v (V.int 0)))) r):Gv (aN (bB cX) 59 ((cJ.drop 1).take 7) (nv x (.v (.lst (.int h::l)))) k) r:=by
 obtain⟨p,hk⟩:=hk
 exact Gv.of (ae::ae::ae::p) (E:=(op (truth (V.lst ((V.int h)::l))) λy1:Bool=>(y1=ae∧((aI (h%2) 0)=ae∧(op (bx (V.lst jH) (V.int (h/12%5))) λy4:V=>((aI (h/6%2) 1)=ae∧(k .next (fU x (.v (V.lst ((V.int h)::l))) (.v (V.int h)) (.v (V.bool (aI (h%2) 0))) (.v (V.str [34])) (.v y4) (.own [(V.tup [(V.str (sL "order")),(V.str [65279]),(V.str []),(V.int 0)]),(V.tup [(V.str [100,97,115,104]),(V.str [45,32]),(V.str []),(V.int 2)]),(V.tup [(V.str (sL "start")),(V.str [34]),(V.str []),(V.int 1)])]) (.v (V.int 0))) p r))))))) (by kernel_rfl) ((az (ez h2 rfl) ⟨rfl,⟨h3,(az h5 ⟨h6,hk⟩)⟩⟩))
theorem PB{x:FV}{h:Int}{l:List V}{b:List Nat}{k:Out→aq→au}(h2:(aJ (av (V.int h::l)) aZ)=ae)(h3:(aI (h%2) 0)=ae)(h5:(bx (V.lst jH) (V.int (h/12%5)))=ag (V.str b))(h6:(aI (h/6%2) 1)=af){r:R}(hk:Gv (k .next (fU x (.v (V.lst ((V.int h)::l))) (.v (V.int h)) (.v (V.bool (aI (h%2) 0))) (.v (V.str [34])) (.v (V.str b)) (.own [(V.tup [(V.str [100,97,115,104]),(V.str [45,32]),(V.str []),(V.int 2)]),(V.tup [(V.str (sL "start")),(V.str [34]),(V.str []),(V.int 1)])]) (.v (V.int 0)))) r):Gv (aN (bB cX) 59 ((cJ.drop 1).take 7) (nv x (.v (.lst (.int h::l)))) k) r:=by
 obtain⟨p,hk⟩:=hk
 exact Gv.of (ae::ae::af::p) (E:=(op (truth (V.lst ((V.int h)::l))) λy1:Bool=>(y1=ae∧((aI (h%2) 0)=ae∧(op (bx (V.lst jH) (V.int (h/12%5))) λy4:V=>((aI (h/6%2) 1)=af∧(k .next (fU x (.v (V.lst ((V.int h)::l))) (.v (V.int h)) (.v (V.bool (aI (h%2) 0))) (.v (V.str [34])) (.v y4) (.own [(V.tup [(V.str [100,97,115,104]),(V.str [45,32]),(V.str []),(V.int 2)]),(V.tup [(V.str (sL "start")),(V.str [34]),(V.str []),(V.int 1)])]) (.v (V.int 0))) p r))))))) (by kernel_rfl) ((az (ez h2 rfl) ⟨rfl,⟨h3,(az h5 ⟨h6,hk⟩)⟩⟩))
theorem PA{x:FV}{h:Int}{l:List V}{b:List Nat}{k:Out→aq→au}(h2:(aJ (av (V.int h::l)) aZ)=ae)(h3:(aI (h%2) 0)=af)(h5:(bx (V.lst jH) (V.int (h/12%5)))=ag (V.str b))(h6:(aI (h/6%2) 1)=ae){r:R}(hk:Gv (k .next (fU x (.v (V.lst ((V.int h)::l))) (.v (V.int h)) (.v (V.bool (aI (h%2) 0))) (.v (V.str [39])) (.v (V.str b)) (.own [(V.tup [(V.str (sL "order")),(V.str [65279]),(V.str []),(V.int 0)]),(V.tup [(V.str [100,97,115,104]),(V.str [45,32]),(V.str []),(V.int 2)]),(V.tup [(V.str (sL "start")),(V.str [39]),(V.str []),(V.int 1)])]) (.v (V.int 0)))) r):Gv (aN (bB cX) 59 ((cJ.drop 1).take 7) (nv x (.v (.lst (.int h::l)))) k) r:=by
 obtain⟨p,hk⟩:=hk
 exact Gv.of (ae::af::ae::p) (E:=(op (truth (V.lst ((V.int h)::l))) λy1:Bool=>(y1=ae∧((aI (h%2) 0)=af∧(op (bx (V.lst jH) (V.int (h/12%5))) λy4:V=>((aI (h/6%2) 1)=ae∧(k .next (fU x (.v (V.lst ((V.int h)::l))) (.v (V.int h)) (.v (V.bool (aI (h%2) 0))) (.v (V.str [39])) (.v y4) (.own [(V.tup [(V.str (sL "order")),(V.str [65279]),(V.str []),(V.int 0)]),(V.tup [(V.str [100,97,115,104]),(V.str [45,32]),(V.str []),(V.int 2)]),(V.tup [(V.str (sL "start")),(V.str [39]),(V.str []),(V.int 1)])]) (.v (V.int 0))) p r))))))) (by kernel_rfl) ((az (ez h2 rfl) ⟨rfl,⟨h3,(az h5 ⟨h6,hk⟩)⟩⟩))
theorem Pz{x:FV}{h:Int}{l:List V}{b:List Nat}{k:Out→aq→au}(h2:(aJ (av (V.int h::l)) aZ)=ae)(h3:(aI (h%2) 0)=af)(h5:(bx (V.lst jH) (V.int (h/12%5)))=ag (V.str b))(h6:(aI (h/6%2) 1)=af){r:R}(hk:Gv (k .next (fU x (.v (V.lst ((V.int h)::l))) (.v (V.int h)) (.v (V.bool (aI (h%2) 0))) (.v (V.str [39])) (.v (V.str b)) (.own [(V.tup [(V.str [100,97,115,104]),(V.str [45,32]),(V.str []),(V.int 2)]),(V.tup [(V.str (sL "start")),(V.str [39]),(V.str []),(V.int 1)])]) (.v (V.int 0)))) r):Gv (aN (bB cX) 59 ((cJ.drop 1).take 7) (nv x (.v (.lst (.int h::l)))) k) r:=by
 obtain⟨p,hk⟩:=hk
 exact Gv.of (ae::af::af::p) (E:=(op (truth (V.lst ((V.int h)::l))) λy1:Bool=>(y1=ae∧((aI (h%2) 0)=af∧(op (bx (V.lst jH) (V.int (h/12%5))) λy4:V=>((aI (h/6%2) 1)=af∧(k .next (fU x (.v (V.lst ((V.int h)::l))) (.v (V.int h)) (.v (V.bool (aI (h%2) 0))) (.v (V.str [39])) (.v y4) (.own [(V.tup [(V.str [100,97,115,104]),(V.str [45,32]),(V.str []),(V.int 2)]),(V.tup [(V.str (sL "start")),(V.str [39]),(V.str []),(V.int 1)])]) (.v (V.int 0))) p r))))))) (by kernel_rfl) ((az (ez h2 rfl) ⟨rfl,⟨h3,(az h5 ⟨h6,hk⟩)⟩⟩))
theorem adh{x t h:FV}{d:Bool}{q y:List Nat}{l:List V}{c n:Int}{k:Out→aq→au}(h1:(aI (n%12) 11)=ae)(h2:(ltI c 4)=ae)(h3:(aJ (av l+av (V.tup (V.str [99,108,111,115,101]::V.str q::V.str []::V.int 1::cg)::V.tup (V.str [110,101,120,116]::V.str y::V.str []::V.int 0::cg)::V.tup (V.str [100,97,115,104]::V.str [45,32]::V.str []::V.int 2::cg)::cg)) aZ)=ae)(h4:(aI (n/12%2) 0)=ae)(h5:(aJ (av (bp l (V.tup (V.str [99,108,111,115,101]::V.str q::V.str []::V.int 1::cg)::V.tup (V.str [110,101,120,116]::V.str y::V.str []::V.int 0::cg)::V.tup (V.str [100,97,115,104]::V.str [45,32]::V.str []::V.int 2::cg)::cg))) aZ)=ae){r:R}(hk:Gv (k .next (gT x t h (.v (V.bool (aI (n/12%2) 0))) (.v (V.str [34])) (.v (V.str y)) (.own (bp (bp l [(V.tup [(V.str (sL "close")),(V.str q),(V.str []),(V.int 1)]),(V.tup [(V.str [110,101,120,116]),(V.str y),(V.str []),(V.int 0)]),(V.tup [(V.str [100,97,115,104]),(V.str [45,32]),(V.str []),(V.int 2)])]) [(V.tup [(V.str (sL "start")),(V.str [34]),(V.str []),(V.int 1)])])) (.v (V.int (c+1))) (.v (V.int n)))) r):Gv (aN (bB []) 60 (bS eQ) (gT x t h (.v (.bool d)) (.v (.str q)) (.v (.str y)) (.own l) (.v (.int c)) (.v (.int n))) k) r:=by
 obtain⟨p,hk⟩:=hk
 exact Gv.of (ae::ae::ae::ae::p) (by kernel_rfl) (aj h1 (aj h2 (aj tT (aM h3 (aj h4 (aM h5 hk))))))
theorem adg{x t h:FV}{d:Bool}{q y:List Nat}{l:List V}{c n:Int}{k:Out→aq→au}(h1:(aI (n%12) 11)=ae)(h2:(ltI c 4)=ae)(h3:(aJ (av l+av (V.tup (V.str [99,108,111,115,101]::V.str q::V.str []::V.int 1::cg)::V.tup (V.str [110,101,120,116]::V.str y::V.str []::V.int 0::cg)::V.tup (V.str [100,97,115,104]::V.str [45,32]::V.str []::V.int 2::cg)::cg)) aZ)=ae)(h4:(aI (n/12%2) 0)=af)(h5:(aJ (av (bp l (V.tup (V.str [99,108,111,115,101]::V.str q::V.str []::V.int 1::cg)::V.tup (V.str [110,101,120,116]::V.str y::V.str []::V.int 0::cg)::V.tup (V.str [100,97,115,104]::V.str [45,32]::V.str []::V.int 2::cg)::cg))) aZ)=ae){r:R}(hk:Gv (k .next (gT x t h (.v (V.bool (aI (n/12%2) 0))) (.v (V.str [39])) (.v (V.str y)) (.own (bp (bp l [(V.tup [(V.str (sL "close")),(V.str q),(V.str []),(V.int 1)]),(V.tup [(V.str [110,101,120,116]),(V.str y),(V.str []),(V.int 0)]),(V.tup [(V.str [100,97,115,104]),(V.str [45,32]),(V.str []),(V.int 2)])]) [(V.tup [(V.str (sL "start")),(V.str [39]),(V.str []),(V.int 1)])])) (.v (V.int (c+1))) (.v (V.int n)))) r):Gv (aN (bB []) 60 (bS eQ) (gT x t h (.v (.bool d)) (.v (.str q)) (.v (.str y)) (.own l) (.v (.int c)) (.v (.int n))) k) r:=by
 obtain⟨p,hk⟩:=hk
 exact Gv.of (ae::ae::ae::af::p) (by kernel_rfl) (aj h1 (aj h2 (aj tT (aM h3 (aj h4 (aM h5 hk))))))
theorem adi{x t h:FV}{d:Bool}{q y:List Nat}{l:List V}{c n:Int}{k:Out→aq→au}(h1:(aI (n%12) 11)=ae)(h2:(ltI c 4)=af)(h3:(aJ (av l) aZ)=ae){r:R}(hk:Gv (k .next (gT x t h (.v (V.bool d)) (.v (V.str q)) (.v (V.str y)) (.own (bp l [(Pc.v (pieceOf n d))])) (.v (V.int c)) (.v (V.int n)))) r):Gv (aN (bB []) 60 (bS eQ) (gT x t h (.v (.bool d)) (.v (.str q)) (.v (.str y)) (.own l) (.v (.int c)) (.v (.int n))) k) r:=by
 obtain⟨p,hk⟩:=hk
 exact Gv.of (ae::af::af::p) (by kernel_rfl) (aj h1 (aj h2 (aj tF (aM h3 hk))))
theorem adj{x t h:FV}{d:Bool}{q y:List Nat}{l:List V}{c n:Int}{k:Out→aq→au}(h1:(aI (n%12) 11)=af)(h2:(aJ (av l) aZ)=ae){r:R}(hk:Gv (k .next (gT x t h (.v (V.bool d)) (.v (V.str q)) (.v (V.str y)) (.own (bp l [(Pc.v (pieceOf n d))])) (.v (V.int c)) (.v (V.int n)))) r):Gv (aN (bB []) 60 (bS eQ) (gT x t h (.v (.bool d)) (.v (.str q)) (.v (.str y)) (.own l) (.v (.int c)) (.v (.int n))) k) r:=by
 obtain⟨p,hk⟩:=hk
 exact Gv.of (af::af::p) (by kernel_rfl) (aj h1 (aj tF (aM h2 hk)))
theorem RY{x t c:FV}{d:Bool}{q y:List Nat}{l:List V}{h:Int}{k:Out→aq→au}(h1:(!aI (h/2%3) 1)=ae)(h2:(aJ (av l) aZ)=ae)(h3:(aI (h/60%2) 1)=ae)(h4:(aJ (av (bp l (V.tup (V.str [99,108,111,115,101]::V.str q::V.str []::V.int 1::cg)::cg))) aZ)=ae){r:R}(hk:Gv (k .next (fU x t (.v (V.int h)) (.v (V.bool d)) (.v (V.str q)) (.v (V.str y)) (.own (bp (bp l [(V.tup [(V.str (sL "close")),(V.str q),(V.str []),(V.int 1)])]) [(V.tup [(V.str [110,101,120,116]),(V.str y),(V.str []),(V.int 0)])])) c)) r):Gv (aN (bB cX) 51 ((cJ.drop 9).take 1) (fU x t (.v (.int h)) (.v (.bool d)) (.v (.str q)) (.v (.str y)) (.own l) c) k) r:=by
 obtain⟨p,hk⟩:=hk
 exact Gv.of (ae::ae::p) (by kernel_rfl) (aj h1 (aM h2 (aj h3 (aM h4 hk))))
theorem RX{x t c:FV}{d:Bool}{q y:List Nat}{l:List V}{h:Int}{k:Out→aq→au}(h1:(!aI (h/2%3) 1)=ae)(h2:(aJ (av l) aZ)=ae)(h3:(aI (h/60%2) 1)=af){r:R}(hk:Gv (k .next (fU x t (.v (V.int h)) (.v (V.bool d)) (.v (V.str q)) (.v (V.str y)) (.own (bp l [(V.tup [(V.str (sL "close")),(V.str q),(V.str []),(V.int 1)])])) c)) r):Gv (aN (bB cX) 51 ((cJ.drop 9).take 1) (fU x t (.v (.int h)) (.v (.bool d)) (.v (.str q)) (.v (.str y)) (.own l) c) k) r:=by
 obtain⟨p,hk⟩:=hk
 exact Gv.of (ae::af::p) (by kernel_rfl) (aj h1 (aM h2 (aj h3 hk)))
theorem RW{x t c:FV}{d:Bool}{q y:List Nat}{l:List V}{h:Int}{k:Out→aq→au}(h1:(!aI (h/2%3) 1)=af){r:R}(hk:Gv (k .next (fU x t (.v (V.int h)) (.v (V.bool d)) (.v (V.str q)) (.v (V.str y)) (.own l) c)) r):Gv (aN (bB cX) 51 ((cJ.drop 9).take 1) (fU x t (.v (.int h)) (.v (.bool d)) (.v (.str q)) (.v (.str y)) (.own l) c) k) r:=by
 obtain⟨p,hk⟩:=hk
 exact Gv.of (af::p) (by kernel_rfl) (aj h1 hk)
theorem f8{x t c h d q y:FV}{l:List V}{k:Out→aq→au}{r:R}:∀⦃y1⦄(h2:(lQ (zI (ic (ai "piece") (eM 1184 20 1184 25)) (aai (PySem.Const.int 1) 0 (eM 1184 26 1184 27)) (eM 1184 20 1184 28)) (ck #[112,105,101,99,101]) (V.lst l))=ag y1)⦃y3⦄(h4:(gq y1)=ag y3)(h5:(short y3&&short y1)=ae)⦃a6⦄⦃v7⦄(h8:(Reads [(V.lst l),(V.str y3)] (V.tup [(V.lst a6),v7])))(hk:Gv (k .next (tw x t h d q y (.v (V.lst l)) c (.v (V.str y3)) (.v (V.lst a6)) (.v v7))) r),Gv (aN (bB cX) 50 ((cJ.drop 10).take 2) (fU x t h d q y (.own l) c) k) r:=
 Gv.to (E:=λ_=>op _ λ_=>op _ λ_=>tp _ (∃_,∃_,_)) (λp=>p) (λ_=>by kernel_rfl) λg y1 h2 y3 h4 h5 a6 v7 h8 hk=>g hk λp hk=>(az h2 (az h4 (aM h5 (aC a6 (aC v7 (aj h8 hk))))))
theorem R7{x t c:FV}{d:Bool}{q y:List Nat}{l:List V}{h:Int}{u:FV}{k:Out→aq→au}(h1:(!aI (h/2%3) 1)=ae)(h2:(aJ (av l) aZ)=ae)(h3:(aI (h/60%2) 1)=ae)(h4:(aJ (av (bp l (V.tup (V.str [99,108,111,115,101]::V.str q::V.str []::V.int 1::cg)::cg))) aZ)=ae){r:R}(hk:Gv (k .next (gT x t (.v (V.int h)) (.v (V.bool d)) (.v (V.str q)) (.v (V.str y)) (.own (bp (bp l [(V.tup [(V.str (sL "close")),(V.str q),(V.str []),(V.int 1)])]) [(V.tup [(V.str [110,101,120,116]),(V.str y),(V.str []),(V.int 0)])])) c u)) r):Gv (aN (bB cX) 51 ((cJ.drop 9).take 1) (gT x t (.v (.int h)) (.v (.bool d)) (.v (.str q)) (.v (.str y)) (.own l) c u) k) r:=by
 obtain⟨p,hk⟩:=hk
 exact Gv.of (ae::ae::p) (by kernel_rfl) (aj h1 (aM h2 (aj h3 (aM h4 hk))))
theorem R5{x t c:FV}{d:Bool}{q y:List Nat}{l:List V}{h:Int}{u:FV}{k:Out→aq→au}(h1:(!aI (h/2%3) 1)=ae)(h2:(aJ (av l) aZ)=ae)(h3:(aI (h/60%2) 1)=af){r:R}(hk:Gv (k .next (gT x t (.v (V.int h)) (.v (V.bool d)) (.v (V.str q)) (.v (V.str y)) (.own (bp l [(V.tup [(V.str (sL "close")),(V.str q),(V.str []),(V.int 1)])])) c u)) r):Gv (aN (bB cX) 51 ((cJ.drop 9).take 1) (gT x t (.v (.int h)) (.v (.bool d)) (.v (.str q)) (.v (.str y)) (.own l) c u) k) r:=by
 obtain⟨p,hk⟩:=hk
 exact Gv.of (ae::af::p) (by kernel_rfl) (aj h1 (aM h2 (aj h3 hk)))
theorem RZ{x t c:FV}{d:Bool}{q y:List Nat}{l:List V}{h:Int}{u:FV}{k:Out→aq→au}(h1:(!aI (h/2%3) 1)=af){r:R}(hk:Gv (k .next (gT x t (.v (V.int h)) (.v (V.bool d)) (.v (V.str q)) (.v (V.str y)) (.own l) c u)) r):Gv (aN (bB cX) 51 ((cJ.drop 9).take 1) (gT x t (.v (.int h)) (.v (.bool d)) (.v (.str q)) (.v (.str y)) (.own l) c u) k) r:=by
 obtain⟨p,hk⟩:=hk
 exact Gv.of (af::p) (by kernel_rfl) (aj h1 hk)
theorem f9{x t c h d q y:FV}{l:List V}{u:FV}{k:Out→aq→au}{r:R}:∀⦃y1⦄(h2:(lQ (zI (ic (ai "piece") (eM 1184 20 1184 25)) (aai (PySem.Const.int 1) 0 (eM 1184 26 1184 27)) (eM 1184 20 1184 28)) (ck #[112,105,101,99,101]) (V.lst l))=ag y1)⦃y3⦄(h4:(gq y1)=ag y3)(h5:(short y3&&short y1)=ae)⦃a6⦄⦃v7⦄(h8:(Reads [(V.lst l),(V.str y3)] (V.tup [(V.lst a6),v7])))(hk:Gv (k .next (tx x t h d q y (.v (V.lst l)) c u (.v (V.str y3)) (.v (V.lst a6)) (.v v7))) r),Gv (aN (bB cX) 50 ((cJ.drop 10).take 2) (gT x t h d q y (.own l) c u) k) r:=
 Gv.to (E:=λ_=>op _ λ_=>op _ λ_=>tp _ (∃_,∃_,_)) (λp=>p) (λ_=>by kernel_rfl) λg y1 h2 y3 h4 h5 a6 v7 h8 hk=>g hk λp hk=>(az h2 (az h4 (aM h5 (aC a6 (aC v7 (aj h8 hk))))))
theorem fl{x h d q y w c:FV}{l m:List V}(h2:(fy ae (V.lst l) (ag (V.int 1)) bg)=ag (V.lst m)){a4:R}(h5:(Gv (dk (ft (bB []) (eI eQ) (bS eQ)) m (fU x (.v (V.lst l)) h d q y w c)) a4)){r:R}(hr:r=(a4.fst,a4.snd)):Gv (ze (fU x (.v (.lst l)) h d q y w c) pk) r:=
 Gv.of ([]) (E:=(op (fy ae (V.lst l) (ag (V.int 1)) bg) λy1:V=>(op (ob.match_1 (λ(o:Option (List V))=>Option (List V)) (V.l? y1) (λ(x:List V)=>ag x) (λ(_:Unit)=>V.t? y1)) λy3:(List V)=>(∃a4:R,((Gv (dk (ft (bB []) (eI eQ) (bS eQ)) y3 (fU x (.v (V.lst l)) h d q y w c)) a4)∧(r=(a4.fst,a4.snd))))))) (by kernel_rfl) ((az h2 (az rfl ⟨a4,⟨h5,hr⟩⟩)))
theorem c1{s:Sc}{d:List V}{rf:V}{k:Out→aq→au}{r:R}(hk:Gv (k .next (Ku s (.v (V.lst d)) (.v rf) (.v V.ak) (.own []) (.v V.none))) r):Gv (aN (bB cX) 60 ((cJ.drop 13).take 2) (zf s (.v (.lst d)) (.v rf)) k) r:=by
 obtain⟨p,hk⟩:=hk
 exact Gv.of (p) (by kernel_rfl) hk
theorem c2{s:Sc}{d g:List V}{rf:V}{k:Out→aq→au}{r:R}:∀⦃v1⦄⦃s2⦄(h3:(Gives fP [V.ak] s (.ok v1) s2))(hk:Gv (k .next (rb s2 (.v (V.lst d)) (.v rf) (.v V.ak) (.own g) (.v V.none) (.v v1))) r),Gv (aN (bB cX) 56 (wZ.take 1) (Ku s (.v (.lst d)) (.v rf) (.v .ak) (.own g) (.v .none)) k) r:=
 Gv.to (E:=λ_=>∃_,∃_,_) (λp=>ae::p) (λ_=>by kernel_rfl) λg v1 s2 h3 hk=>g hk λp hk=>(aC v1 (aC s2 (aj h3 hk)))
theorem Xl{s:Sc}{d rf t y:FV}{g:List V}{a b:V}{k:Out→aq→au}{r:R}:∀⦃v1⦄(h2:(Place [a] v1))⦃v3⦄(h4:(Place [b] v3))(h5:(aJ (av g) aZ)=ae)(hk:Gv (k .next (dK s d rf (.v V.ak) (.own (bp g [(V.tup [(V.str (sL "<block sequence start>")),V.none,v1,v3])])) t (.v (V.obj 302 [((ai "start_mark"),a),((ai "end_mark"),b)])) (.v V.none))) r),Gv (aN (bB []) 60 n_ (dK s d rf (.v .ak) (.own g) t (.v (ey 302 a b)) y) k) r:=
 Gv.to (E:=λ_=>_∧∃_,_∧∃_,_) (λp=>af::p) (λ_=>by kernel_rfl) λg v1 h2 v3 h4 h5 hk=>g hk λp hk=>(aj tF (aC v1 (aj h2 (aC v3 (aj h4 (aM h5 hk))))))
theorem Xn{s:Sc}{d rf t y:FV}{g:List V}{a b:V}{k:Out→aq→au}{r:R}:∀⦃v1⦄(h2:(Place [a] v1))⦃v3⦄(h4:(Place [b] v3))(h5:(aJ (av g) aZ)=ae)(hk:Gv (k .next (dK s d rf (.v V.ak) (.own (bp g [(V.tup [(V.str [45]),V.none,v1,v3])])) t (.v (V.obj 410 [((ai "start_mark"),a),((ai "end_mark"),b)])) (.v V.none))) r),Gv (aN (bB []) 60 n_ (dK s d rf (.v .ak) (.own g) t (.v (ey 410 a b)) y) k) r:=
 Gv.to (E:=λ_=>_∧∃_,_∧∃_,_) (λp=>af::p) (λ_=>by kernel_rfl) λg v1 h2 v3 h4 h5 hk=>g hk λp hk=>(aj tF (aC v1 (aj h2 (aC v3 (aj h4 (aM h5 hk))))))
theorem Xm{s:Sc}{d rf t y:FV}{g:List V}{a b:V}{k:Out→aq→au}{r:R}:∀⦃v1⦄(h2:(Place [a] v1))⦃v3⦄(h4:(Place [b] v3))(h5:(aJ (av g) aZ)=ae)(hk:Gv (k .next (dK s d rf (.v V.ak) (.own (bp g [(V.tup [(V.str (sL "<block end>")),V.none,v1,v3])])) t (.v (V.obj 326 [((ai "start_mark"),a),((ai "end_mark"),b)])) (.v V.none))) r),Gv (aN (bB []) 60 n_ (dK s d rf (.v .ak) (.own g) t (.v (ey 326 a b)) y) k) r:=
 Gv.to (E:=λ_=>_∧∃_,_∧∃_,_) (λp=>af::p) (λ_=>by kernel_rfl) λg v1 h2 v3 h4 h5 hk=>g hk λp hk=>(aj tF (aC v1 (aj h2 (aC v3 (aj h4 (aM h5 hk))))))
theorem Xk{s:Sc}{d rf t y:FV}{g:List V}{a b:V}{k:Out→aq→au}{r:R}:∀⦃v1⦄(h2:(Place [a] v1))⦃v3⦄(h4:(Place [b] v3))(h5:(aJ (av g) aZ)=ae)(hk:Gv (k .next (dK s d rf (.v V.ak) (.own (bp g [(V.tup [(V.str (sL "<stream end>")),V.none,v1,v3])])) t (.v (V.obj 290 [((ai "start_mark"),a),((ai "end_mark"),b)])) (.v V.none))) r),Gv (aN (bB []) 60 n_ (dK s d rf (.v .ak) (.own g) t (.v (ey 290 a b)) y) k) r:=
 Gv.to (E:=λ_=>_∧∃_,_∧∃_,_) (λp=>af::p) (λ_=>by kernel_rfl) λg v1 h2 v3 h4 h5 hk=>g hk λp hk=>(aj tF (aC v1 (aj h2 (aC v3 (aj h4 (aM h5 hk))))))
theorem Xo{s:Sc}{d rf t y:FV}{g:List V}{a b:V}{v u:List Nat}{k:Out→aq→au}{r:R}:∀⦃v1⦄(h2:(Place [a] v1))⦃v3⦄(h4:(Place [b] v3))(h5:(aJ (av g) aZ)=ae)(hk:Gv (k .next (dK s d rf (.v V.ak) (.own (bp g [(V.tup [(V.str (sL "<scalar>")),(V.tup [(V.str v),(V.bool af),(V.str u)]),v1,v3])])) t (.v (V.obj 499 [((ai "value"),(V.str v)),((ai "plain"),(V.bool af)),((ai "start_mark"),a),((ai "end_mark"),b),((ai "style"),(V.str u))])) (.v (V.tup [(V.str v),(V.bool af),(V.str u)])))) r),Gv (aN (bB []) 60 n_ (dK s d rf (.v .ak) (.own g) t (.v (MI v u a b)) y) k) r:=
 Gv.to (E:=λ_=>_∧∃_,_∧∃_,_) (λp=>ae::p) (λ_=>by kernel_rfl) λg v1 h2 v3 h4 h5 hk=>g hk λp hk=>(aj tT (aC v1 (aj h2 (aC v3 (aj h4 (aM h5 hk))))))
theorem Xj{s:Sc}{d rf t:FV}{g:List V}{a:V}{k:Out→aq→au}{r:R}:∀⦃v1⦄(h2:(Place [a] v1))⦃v3⦄(h4:(Place [a] v3))(h5:(aJ (av g) aZ)=ae)(hk:Gv (k .next (dK s d rf (.v V.ak) (.own (bp g [(V.tup [(V.str (sL "<stream start>")),V.none,v1,v3])])) t (.v (V.obj 278 [((ai "start_mark"),a),((ai "end_mark"),a),((ai "encoding"),V.none)])) (.v V.none))) r),Gv (aN (bB []) 60 n_ (rb s d rf (.v .ak) (.own g) t (.v (tX a))) k) r:=
 Gv.to (E:=λ_=>_∧∃_,_∧∃_,_) (λp=>af::p) (λ_=>by kernel_rfl) λg v1 h2 v3 h4 h5 hk=>g hk λp hk=>(aj tF (aC v1 (aj h2 (aC v3 (aj h4 (aM h5 hk))))))
theorem KQ{s:Sc}{d rf t y z g:FV}{k:Out→aq→au}{r:R}:∀⦃v1⦄⦃s2⦄(h3:(Gives fP [V.ak] s (.ok v1) s2))(hk:Gv (k .next (dK s2 d rf (.v V.ak) g t (.v v1) y)) r),Gv (aN (bB []) 58 wY (dK s d rf (.v .ak) g t z y) k) r:=
 Gv.to (E:=λ_=>∃_,∃_,_) (λp=>ae::p) (λ_=>by kernel_rfl) λg v1 s2 h3 hk=>g hk λp hk=>(aC v1 (aC s2 (aj h3 hk)))
theorem YF{s:Sc}{d rf t y z g:FV}{k:Out→aq→au}{r:R}:∀⦃v1⦄⦃s2⦄(h3:(Gives fP [V.ak] s (.exc v1) s2))(hk:Gv (k (.exc v1) (dK s2 d rf (.v V.ak) g t z y)) r),Gv (aN (bB []) 58 wY (dK s d rf (.v .ak) g t z y) k) r:=
 Gv.to (E:=λ_=>∃_,∃_,_) (λp=>af::p) (λ_=>by kernel_rfl) λg v1 s2 h3 hk=>g hk λp hk=>(aC v1 (aC s2 (aj h3 hk)))
theorem YE{s:Sc}{d rf t y g:FV}{r:R}(hr:r=(.brk,(dK s d rf (.v V.ak) g t (.v V.none) y))):Gv (tA (dK s d rf (.v .ak) g t (.v .none) y)) r:=
 Gv.of (af::[]) (by kernel_rfl) (aj tF hr)
theorem ca{a b tk td m n:V}{s:Sc}{d rf g:FV}{k:Out→aq→au}{r:R}:∀⦃v1⦄(h2:(Place [m] v1))⦃v3⦄(h4:(Place [n] v3))(hk:Gv (k .next (D9 d rf (.v V.ak) g (.v (V.tup [v1,v3])) (.v tk) (.v td))) r),Gv (D7 k (.exc (.obj 511 (kb a m b n))) (dK s d rf (.v .ak) g (.v .none) (.v tk) (.v td))) r:=
 Gv.to (E:=λ_=>∃_,_∧∃_,_) (λp=>p) (λ_=>by kernel_rfl) λg v1 h2 v3 h4 hk=>g hk λp hk=>(aC v1 (aj h2 (aC v3 (aj h4 hk))))
theorem zs{s:Sc}{d g:List V}{rf t y u:V}{k:Out→aq→au}{r:R}:∀⦃y1⦄(h2:(oV (cN 8 (V.lst g) (V.lst d)))=ag y1)⦃y3⦄(h4:(truth y1)=ag y3)(h5:(!y3)=af)⦃y6⦄(h7:(oV (cN 8 t rf))=ag y6)(hk:Gv (k (.ret y6) (dK s (.v (V.lst d)) (.v rf) (.v V.ak) (.v (V.lst g)) (.v t) (.v y) (.v u))) r),Gv (aN (bB cX) 57 (cJ.drop 16) (dK s (.v (.lst d)) (.v rf) (.v .ak) (.own g) (.v t) (.v y) (.v u)) k) r:=
 Gv.to (E:=λ_=>op _ λ_=>op _ λ_=>_∧op _ λ_=>_) (λp=>af::p) (λ_=>by kernel_rfl) λg y1 h2 y3 h4 h5 y6 h7 hk=>g hk λp hk=>(az h2 (az h4 (aj h5 (az h7 hk))))
theorem zn{d g:List V}{rf t y u:V}{k:Out→aq→au}{r:R}:∀⦃y1⦄(h2:(oV (cN 8 (V.lst g) (V.lst d)))=ag y1)⦃y3⦄(h4:(truth y1)=ag y3)(h5:(!y3)=af)⦃y6⦄(h7:(oV (cN 8 t rf))=ag y6)(hk:Gv (k (.ret y6) (D9 (.v (V.lst d)) (.v rf) (.v V.ak) (.v (V.lst g)) (.v t) (.v y) (.v u))) r),Gv (aN (bB cX) 57 (cJ.drop 16) (D9 (.v (.lst d)) (.v rf) (.v .ak) (.own g) (.v t) (.v y) (.v u)) k) r:=
 Gv.to (E:=λ_=>op _ λ_=>op _ λ_=>_∧op _ λ_=>_) (λp=>af::p) (λ_=>by kernel_rfl) λg y1 h2 y3 h4 h5 y6 h7 hk=>g hk λp hk=>(az h2 (az h4 (aj h5 (az h7 hk))))
structure gH where
 closed:Nat
 d:Bool
 row:List Pc
noncomputable def ra(n:Int)(closed:Nat):Bool:=aI (n%12) 11&&ltI (closed:Nat) 4
noncomputable def jJ(n:Int):Bool:=aI (n/12%2) 0
noncomputable def qu(bt:List Nat)(d d' :Bool):List Pc:=[jk (bJ d),iI bt,ka,gW (bJ d')]
noncomputable def ma(bt:List Nat)(s:gH)(n:Int):gH:=br (ra n s.closed) ⟨s.closed+1,jJ n,s.row++qu bt s.d (jJ n)⟩ ⟨s.closed,s.d,s.row++[pieceOf n s.d]⟩
noncomputable def pz(bt:List Nat):List Int→gH→gH
 | [],s=>s
 |n::r,s=>pz bt r (ma bt s n)
noncomputable def isOpen(h:Int):Bool:=!(aI (h/2%3) 1)
noncomputable def JW(h:Int):Bool:=aI (h/60%2) 1
noncomputable def endOf(h:Int):j7:=br (isOpen h) (br (JW h) .next .MV) .open
noncomputable def jU(bt:List Nat)(h:Int)(d:Bool):List Pc:=jD bt (endOf h) (bJ d) []
inductive GI(bt:List Nat)(e:j7)(d:Bool)(pre row:List Pc):Prop
 |mk (body:List Pc) (gs:List Seg) (hb:∀p∈body,de d p) (hg:∀g∈gs,∀p∈g.body,de g.d p) (h:row=pre++(body++jD bt e (bJ d) gs))
theorem FA{bt:List Nat}{s:gH}{n:Int}(h:ra n s.closed=ae):ma bt s n=⟨s.closed+1,jJ n,s.row++qu bt s.d (jJ n)⟩:=by unfold ma;rw[h];rfl
theorem Fz{bt:List Nat}{s:gH}{n:Int}(h:ra n s.closed=af):ma bt s n=⟨s.closed,s.d,s.row++[pieceOf n s.d]⟩:=by unfold ma;rw[h];rfl
theorem Co(bt:List Nat)(h:Int):∀(ns:List Int)(c:Nat)(d:Bool)(pre body:List Pc),(∀p∈body,de d p)→
 GI bt (endOf h) d pre ((pz bt ns ⟨c,d,pre++body⟩).row++jU bt h (pz bt ns ⟨c,d,pre++body⟩).d)
 | [],c,d,pre,body,hb=>⟨body,[],hb,dw,aR ..⟩
 |n::ns,c,d,pre,body,hb=>by
  show GI bt (endOf h) d pre ((pz bt ns (ma bt ⟨c,d,pre++body⟩ n)).row++jU bt h (pz bt ns (ma bt ⟨c,d,pre++body⟩ n)).d)
  cases hc:ra n c with
  |true=>
   rw[FA hc]
   obtain⟨b1,gs,h1,h2,e⟩:=Co bt h ns (c+1) (jJ n) ((pre++body)++qu bt d (jJ n)) [] dw
   rw[gv]at e
   refine⟨body,⟨jJ n,b1⟩::gs,hb,λg hg=>(List.mem_cons.mp hg).elim (λe=>by rw[e];exact h1) (h2 g),e.trans ?_⟩
   rw[aR,aR];rfl
  |false=>
   rw[Fz hc]
   obtain⟨b1,gs,h1,h2,e⟩:=Co bt h ns c d pre (body++[pieceOf n d]) λp hp=>(List.mem_append.mp hp).elim (hb p) λhp=>by rw[List.mem_singleton.mp hp];exact aaP n d
   rw[←aR]at e
   exact⟨b1,gs,h1,h2,e⟩
noncomputable def gj(p:Pc):Bool:=aJ p.src.length 16&&(aJ p.mean.length 16&&kl p.src)
theorem sk{b:Bool}{x y:Pc}(h1:b=ae→gj x=ae)(h2:b=af→gj y=ae):gj (br b x y)=ae:=qp (P:=λp=>gj p=ae) h1 h2
theorem qj{α:Type}{T:List α}{f:α→Bool}(h:T.all f=ae)(i:Int)(m:Nat)(x:α)(e:T.length=m)(h0:0<m):f (ix T (i%(m:Nat)) x)=ae:=List.all_eq_true.mp h _ (nh T i m x e h0)
theorem aaQ(n:Int)(d:Bool):gj (pieceOf n d)=ae:=
 sk (λ_=>qj (f:=λw=>gj (og w)) (by cases d<;>kernel_rfl) _ 9 _ (by cases d<;>rfl) (bw rfl)) λ_=>
 sk (λ_=>qj (f:=λw=>gj (xD w)) (by kernel_rfl) _ 3 _ rfl (bw rfl)) λ_=>
 sk (λ_=>sk (λ_=>qj (T:=iz) (f:=λw=>gj (xy w)) (by kernel_rfl) _ 7 _ rfl (bw rfl)) λ_=>qj (T:=iz) (f:=λw=>gj (yU w)) (by kernel_rfl) _ 7 _ rfl (bw rfl)) λ_=>
 sk (λ_=>by
  cases d with
  |true=>exact qj (T:=lT) (f:=λw=>gj (qw w)) (by kernel_rfl) _ 26 _ rfl (bw rfl)
  |false=>exact qj (T:=pW) (f:=λw=>gj (qw w)) (by kernel_rfl) _ 4 _ rfl (bw rfl)) λ_=>
 sk (λh=>List.all_eq_true.mp (show mU.all (λe=>gj (xV e))=ae by kernel_rfl) _ (DC mU _ (zB _ (by decide)) (jT (aF h).1))) λ_=>
 qj (T:=pF) (f:=λw=>gj (zh w)) (by kernel_rfl) _ 2 _ rfl (bw rfl)
def mA(row:List Pc):Prop:=∀p∈row,gj p=ae
theorem A8{a b:List Pc}(h1:mA a)(h2:mA b):mA (a++b):=λp hp=>(List.mem_append.mp hp).elim (h1 p) (h2 p)
theorem uC{a:List Pc}(h:a.all gj=ae):mA a:=λp hp=>List.all_eq_true.mp h p hp
noncomputable def eu(h:Int):List Nat:=ix sf (h/12%5) []
theorem Hc(h:Int):eu h∈sf:=nh sf _ 5 _ rfl (bw rfl)
theorem Hb{f:List Nat→Bool}(e:sf.all f=ae)(h:Int):f (eu h)=ae:=List.all_eq_true.mp e _ (Hc h)
inductive Gf(bt:List Nat):Prop
 |mk (mm:List Nat) (h:Jj bt mm)
theorem QF(h:Int):Gf (eu h):=
 fm (P:=Gf) ⟨[10],λc t _=> .lf _,λt=> .mk _ _ rfl⟩ (fm ⟨[10],λc t _=> .crlf _,λt=> .mk _ _ rfl⟩ (fm ⟨[10],λc t _=> .zm _,λt=> .mk _ _ rfl⟩ (fm ⟨[8232],λc t _=> .ls _,λt=> .mk _ _ rfl⟩
  (fm ⟨[10],λc t hc=> .cr _ λr e=>nt ((hc).symm.trans (congrArg (aH · 10) (LG e).1)),λt=> .mk _ _ rfl⟩ dw)))) _ (Hc h)
theorem Ro(h:Int)(d d' :Bool):mA (qu (eu h) d d'):=uC (Hb (f:=λbt=>(qu bt d d').all gj) (by cases d<;>cases d' <;>kernel_rfl) h)
theorem HI(h:Int)(d:Bool):mA (jU (eu h) h d)∧(jU (eu h) h d).length≤2:=by
 unfold jU
 refine⟨uC (Hb (f:=λbt=>(jD bt (endOf h) (bJ d) []).all gj) ?_ h),?_⟩
 ·cases endOf h<;>cases d<;>kernel_rfl
 ·cases endOf h<;>exact bw rfl
inductive oD(s:gH)(i:Nat):Prop
 |mk (h:mA s.row) (l:s.row.length≤3+i+3*s.closed) (c:s.closed≤4)
theorem Nd{h:Int}{s:gH}{i:Nat}{n:Int}(B:oD s i):oD (ma (eu h) s n) (i+1):=by
 obtain⟨h1,h2,h3⟩:=B
 cases hc:ra n s.closed with
 |true=>
  rw[FA hc]
  refine⟨A8 h1 (Ro h _ _),?_,Int.ofNat_lt.mp (jT (aF hc).2)⟩
  show(s.row++_).length≤3+(i+1)+3*(s.closed+1)
  rw[bE]
  exact aL (gw h2 4) (pP (by show 3+i+3*s.closed+4=_;omega))
 |false=>
  rw[Fz hc]
  refine⟨A8 h1 (uC (by show(gj (pieceOf n s.d)&&ae)=ae;rw[aaQ];rfl)),?_,h3⟩
  show(s.row++_).length≤3+(i+1)+3*s.closed
  rw[bE]
  exact aL (gw h2 1) (pP (jz ..))
theorem ID{h:Int}:∀(r:List Int){s:gH}{i:Nat},oD s i→oD (pz (eu h) r s) (i+r.length)
 | [],s,i,B=>B
 |n::r,s,i,B=>by
  have:=ID (h:=h) r (Nd (h:=h) (n:=n) B)
  rw[jz]at this
  exact this
noncomputable def d0(h:Int):Bool:=aI (h%2) 0
noncomputable def lI(h:Int):Bool:=aI (h/6%2) 1
noncomputable def j0(h:Int):List Pc:=br (lI h) [zV,ka,gW (bJ (d0 h))] [ka,gW (bJ (d0 h))]
noncomputable def nj(h:Int)(r:List Int):gH:=pz (eu h) r ⟨0,d0 h,j0 h⟩
noncomputable def i_(h:Int)(r:List Int):List Pc:=(nj h r).row++jU (eu h) h (nj h r).d
noncomputable def dA(l:List Int):List V:=l.map V.int
inductive se:List V→Int→List Int→Prop where
 |nil:se [] 0 []
 |cons (h:Int) (r:List Int):se (dA (h::r)) h r
noncomputable def rg(x t h:FV)(bt:List Nat)(s:gH):aq:=fU x t h (.v (.bool s.d)) (.v (.str [bJ s.d])) (.v (.str bt)) (.own (s.row.map Pc.v)) (.v (.int (s.closed:Nat)))
noncomputable def lu(x t h:FV)(bt:List Nat)(s:gH)(u:FV):aq:=gT x t h (.v (.bool s.d)) (.v (.str [bJ s.d])) (.v (.str bt)) (.own (s.row.map Pc.v)) (.v (.int (s.closed:Nat))) u
theorem xE(h:Int):bx (.lst jH) (.int (h/12%5))=ag (.str (eu h)):=qX sf .str (h/12) 5 [] rfl (bw rfl) (bw rfl)
theorem My{h:Int}{q:Nat}(e:bJ (d0 h)=q)(o:lI h=ae):(j0 h).map Pc.v=[zV.v,ka.v,(gW q).v]:=by unfold j0;rw[o,e];rfl
theorem Mw{h:Int}{q:Nat}(e:bJ (d0 h)=q)(o:lI h=af):(j0 h).map Pc.v=[ka.v,(gW q).v]:=by unfold j0;rw[o,e];rfl
theorem q_t{d:Bool}(h:d=ae):bJ d=34:=by rw[h];rfl
theorem q_f{d:Bool}(h:d=af):bJ d=39:=by rw[h];rfl
theorem part1{x:FV}{l:List V}{h:Int}{r:List Int}(T:se l h r)(hl:r.length≤20){k:Out→aq→au}{z:R}(g:Gv (k .next (rg x (.v (.lst l)) (.v (.int h)) (eu h) ⟨0,d0 h,j0 h⟩)) z):Gv (aN (bB cX) 59 ((cJ.drop 1).take 7) (nv x (.v (.lst l))) k) z:=by
 induction T with
 |nil=>exact a0 (b:=[]) g
 |cons h r=>
  have hb:aJ (av (V.int h::dA r)) aZ=ae:=cB (aL (jy (by rw[show(dA r).length=r.length from e_ ..];exact hl)) (bw rfl))
  unfold rg at g
  cases hd:d0 h with
  |true=>
   have e:=q_t hd
   cases ho:lI h with
   |true=>exact PC hb hd (xE h) ho (by rw[My e ho,e]at g;exact g)
   |false=>exact PB hb hd (xE h) ho (by rw[Mw e ho,e]at g;exact g)
  |false=>
   have e:=q_f hd
   cases ho:lI h with
   |true=>exact PA hb hd (xE h) ho (by rw[My e ho,e]at g;exact g)
   |false=>exact Pz hb hd (xE h) ho (by rw[Mw e ho,e]at g;exact g)
theorem Pg{α:Type}(a:α)(f:α→au):Ob (ag a) f=f a:=rfl
theorem NO{G:aX}{tg:aw}{b:List aG}{v:V}{st st' :aq}{r:R}(h:Bl G tg v st=ag st')(g:Gv (aN G 60 b st' pk) r):Gv (ft G tg b v st) r:=by
 unfold ft
 rw[h,Pg];exact g
inductive mF(x t h:FV)(bt:List Nat)(s:gH):aq→Prop
 |z:mF x t h bt s (rg x t h bt s)
 |n (u:FV):mF x t h bt s (lu x t h bt s u)
section
variable{x t h:FV}{bt:List Nat}{s:gH}{n:Int}
theorem Yk{st:aq}(H:mF x t h bt s st){r:R}(g:Gv (aN (bB []) 60 (bS eQ) (lu x t h bt s (.v (.int n))) pk) r):Gv (Ky (.int n) st) r:=by
 induction H with
 |z=>exact NO (by kernel_rfl) g
 |n u=>exact NO (by kernel_rfl) g
theorem Yt(l:List Pc)(bt:List Nat)(d d' :Bool):(l++qu bt d d').map Pc.v=bp (bp (l.map Pc.v) [(jk (bJ d)).v,(iI bt).v,ka.v]) [(gW (bJ d')).v]:=by
 rw[ko];exact(aR (l.map Pc.v) [(jk (bJ d)).v,(iI bt).v,ka.v] [(gW (bJ d')).v]).symm
theorem Ym(hl:s.row.length≤1000):Gv (aN (bB []) 60 (bS eQ) (lu x t h bt s (.v (.int n))) pk) (.next,lu x t h bt (ma bt s n) (.v (.int n))):=by
 have L:(s.row.map Pc.v).length≤1000:=by rw[e_];exact hl
 cases hc:ra n s.closed with
 |true=>
  obtain⟨h1,h2⟩:=aF hc
  rw[FA hc]
  have h3:∀a b c:V,aJ ((s.row.map Pc.v).length+[a,b,c].length) aZ=ae:=λa b c=>sg (aL (gw L 3) (bw rfl))
  have h5:∀a b c:V,aJ (bp (s.row.map Pc.v) [a,b,c]).length aZ=ae:=λa b c=>by
   rw[show(bp (s.row.map Pc.v) [a,b,c]).length=_ from bE];exact h3 a b c
  have e0:lu x t h bt ⟨s.closed+1,jJ n,s.row++qu bt s.d (jJ n)⟩ (.v (.int n))=gT x t h (.v (.bool (jJ n))) (.v (.str [bJ (jJ n)])) (.v (.str bt)) (.own (bp (bp (s.row.map Pc.v) [(jk (bJ s.d)).v,(iI bt).v,ka.v]) [(gW (bJ (jJ n))).v])) (.v (.int ((s.closed:Nat)+1))) (.v (.int n)):=by
   unfold lu;rw[Yt];rfl
  rw[e0]
  cases hd:jJ n with
  |true=>exact adh h1 h2 (h3 ..) hd (h5 ..) (by rw[show aI (n/12%2) 0=ae from hd];exact Gv.leaf _)
  |false=>exact adg h1 h2 (h3 ..) hd (h5 ..) (by rw[show aI (n/12%2) 0=af from hd];exact Gv.leaf _)
 |false=>
  rw[Fz hc]
  have e0:lu x t h bt ⟨s.closed,s.d,s.row++[pieceOf n s.d]⟩ (.v (.int n))=gT x t h (.v (.bool s.d)) (.v (.str [bJ s.d])) (.v (.str bt)) (.own (bp (s.row.map Pc.v) [(pieceOf n s.d).v])) (.v (.int (s.closed:Nat))) (.v (.int n)):=by
   unfold lu;rw[ko];rfl
  rw[e0]
  have hb:aJ (s.row.map Pc.v).length aZ=ae:=cB (aL L (bw rfl))
  cases h1:aI (n%12) 11 with
  |true=>
   have h2:ltI (s.closed:Nat) 4=af:=by
    unfold ra at hc
    rw[h1]at hc;exact hc
   exact adi h1 h2 hb (Gv.leaf _)
  |false=>exact adj h1 hb (Gv.leaf _)
inductive O' (x t h:FV)(bt:List Nat)(s:gH)(a:au):Prop
 |mk (st:aq) (H:mF x t h bt s st) (g:Gv a (.next,st))
theorem Kz{hh:Int}:∀(r:List Int){s:gH}{st:aq}{i:Nat},mF x t h (eu hh) s st→oD s i→i+r.length≤900→O' x t h (eu hh) (pz (eu hh) r s) (dk Ky (dA r) st)
 | [],s,st,i,H,B,_=>⟨st,H,lX⟩
 |n::r,s,st,i,H,B,hl=>by
  have B1:oD (ma (eu hh) s n) (i+1):=Nd B
  obtain⟨_,h2,h3⟩:=B
  have hr:s.row.length≤1000:=by have:i+(r.length+1)≤900:=hl;omega
  obtain⟨st',H',g⟩:=Kz (hh:=hh) r (.n (.v (.int n))) B1 (by rw[jz];exact hl)
  exact⟨st',H',kg (Yk H (Ym hr)) g⟩
end
theorem Rq{l:List V}(h:l.length≤1000000):fy ae (.lst l) (ag (.int 1)) bg=ag (.lst (l.drop 1)):=by
 show tt (ae&&short l) (ag (V.lst ((l.take l.length).drop 1)))=_
 rw[show short l=ae from cB h,Z'];rfl
theorem T6{st:aq}{k:Out→aq→au}{r:R}(h:Gv (za ze st (jY (bB cX) 51 k)) r):Gv (aN (bB cX) 52 ((cJ.drop 8).take 1) st k) r:=by
 obtain⟨p,h⟩:=h
 exact Gv.of p (by kernel_rfl) h
inductive To(P:aq→Prop)(n:Nat)(b:List aG)(st:aq):Prop
 |mk (st' :aq) (h:P st') (g:∀{k:Out→aq→au}{r:R},Gv (k .next st') r→Gv (aN (bB cX) n b st k) r)
section
variable{x:FV}{l:List V}{h:Int}{r:List Int}
theorem part4(T:se l h r)(hr:r.length≤20):To (mF x (.v (.lst l)) (.v (.int h)) (eu h) (nj h r)) 52 ((cJ.drop 8).take 1) (rg x (.v (.lst l)) (.v (.int h)) (eu h) ⟨0,d0 h,j0 h⟩):=by
 have hd:l.drop 1=dA r:=by cases T<;>rfl
 have hl:l.length≤1000000:=by
  cases T with
  |nil=>exact gx _
  |cons=>exact aL (jy (by rw[show(List.map V.int r).length=r.length from e_ ..];exact hr)) (bw rfl)
 have hc:=Rq hl
 rw[hd]at hc
 have B:oD ⟨0,d0 h,j0 h⟩ 0:=by
  unfold j0
  refine⟨?_,?_,gx _⟩
  ·cases lI h<;>cases d0 h<;>exact uC (by kernel_rfl)
  ·cases lI h<;>exact bw rfl
 obtain⟨st',H,g⟩:=Kz (x:=x) (t:=.v (.lst l)) (h:=.v (.int h)) r (.z) B (by rw[fY];exact aL hr (bw rfl))
 have G:=fl hc g rfl
 refine⟨st',H,λ{k z} q=>T6 ?_⟩
 rw[mq]
 cases H with
 |z=>obtain⟨p,q⟩:=q;exact⟨p,_,G,q⟩
 |n u=>obtain⟨p,q⟩:=q;exact⟨p,_,G,q⟩
theorem KC(l a:List Pc):(l++a).map Pc.v=bp (l.map Pc.v) (a.map Pc.v):=ko
theorem Yr(l:List Pc)(a b:Pc):(l++[a,b]).map Pc.v=bp (bp (l.map Pc.v) [a.v]) [b.v]:=by
 rw[KC];exact(aR (l.map Pc.v) [a.v] [b.v]).symm
theorem part5{t:FV}{s:gH}{st:aq}(H:mF x t (.v (.int h)) (eu h) s st)(hl:s.row.length≤1000):To (mF x t (.v (.int h)) (eu h) ⟨s.closed,s.d,s.row++jU (eu h) h s.d⟩) 51 ((cJ.drop 9).take 1) st:=by
 have hb:aJ (s.row.map Pc.v).length aZ=ae:=cB (by rw[e_];exact aL hl (bw rfl))
 have Jb:∀a:V,aJ (bp (s.row.map Pc.v) [a]).length aZ=ae:=λa=>by
  rw[show(bp (s.row.map Pc.v) [a]).length=_ from bE]
  exact sg (aL (gw (by rw[e_];exact hl) 1) (bw rfl))
 cases h1:isOpen h with
 |false=>
  have e:(s.row++jU (eu h) h s.d).map Pc.v=s.row.map Pc.v:=by
   unfold jU endOf
   rw[h1];exact congrArg (List.map Pc.v) (gv s.row)
  cases H with
  |z=>exact⟨_,.z,λq=>RW h1 (by unfold rg at q;rw[e]at q;exact q)⟩
  |n u=>exact⟨_,.n u,λq=>RZ h1 (by unfold lu at q;rw[e]at q;exact q)⟩
 |true=>
  cases h2:JW h with
  |true=>
   have e:(s.row++jU (eu h) h s.d).map Pc.v=bp (bp (s.row.map Pc.v) [(jk (bJ s.d)).v]) [(iI (eu h)).v]:=by
    rw[←Yr]
    unfold jU endOf
    rw[h1,h2];rfl
   cases H with
   |z=>exact⟨_,.z,λq=>RY h1 hb h2 (Jb _) (by unfold rg at q;rw[e]at q;exact q)⟩
   |n u=>exact⟨_,.n u,λq=>R7 h1 hb h2 (Jb _) (by unfold lu at q;rw[e]at q;exact q)⟩
  |false=>
   have e:(s.row++jU (eu h) h s.d).map Pc.v=bp (s.row.map Pc.v) [(jk (bJ s.d)).v]:=by
    rw[KC]
    unfold jU endOf
    rw[h1,h2];rfl
   cases H with
   |z=>exact⟨_,.z,λq=>RX h1 hb h2 (by unfold rg at q;rw[e]at q;exact q)⟩
   |n u=>exact⟨_,.n u,λq=>R5 h1 hb h2 (by unfold lu at q;rw[e]at q;exact q)⟩
noncomputable def BK:aw:=.Subscript (.Name (ai "piece") ⟨1184,20,1184,25⟩) (.Constant (.int 1) 0 ⟨1184,26,1184,27⟩) ⟨1184,20,1184,28⟩
theorem aas(p:Pc):lJ p.v=ae:=by
 show(lJ (.str p.kd.nm)&&(lJ (.str p.src)&&(lJ (br p.kd.nf (.int (p.ahead:Nat)) (.str p.mean))&&(lJ (.int (p.cols:Nat))&&jZ []))))=ae
 cases p.kd.nf<;>rfl
theorem Mx:∀(row:List Pc),jZ (row.map Pc.v)=ae
 | []=>rfl
 |p::r=>by
  show(lJ p.v&&jZ (r.map Pc.v))=ae
  rw[aas,Mx r];rfl
theorem KG:∀(row:List Pc),pE BK (ai "piece") (row.map Pc.v)=ag (cn (row.map Pc.src))
 | []=>rfl
 |p::r=>fC (show oR 20 BK [(ai "piece",p.v)]=ag (.str p.src)by kernel_rfl) (fC (KG r) rfl)
theorem M' :∀(row:List Pc),(row.map Pc.src).flatten=b_ row
 | []=>rfl
 |p::r=>List.flatten_cons.trans (congrArg (p.src++ ·) (M' r))
inductive uk(text:List Nat)(d:List V)(rf:V):aq→Prop
 |z (a b c e f g h i:FV):uk text d rf (tw a b c e f g h i (.v (.str text)) (.v (.lst d)) (.v rf))
 |n (a b c e f g h i j:FV):uk text d rf (tx a b c e f g h i j (.v (.str text)) (.v (.lst d)) (.v rf))
theorem part6{t hh:FV}{bt:List Nat}{s:gH}{st:aq}{d:List V}{rf:V}(H:mF x t hh bt s st)(hl:s.row.length≤1000)(hs:(b_ s.row).length≤1000000)(Rd:Reads [.lst (s.row.map Pc.v),.str (b_ s.row)] (.tup [.lst d,rf])):To (uk (b_ s.row) d rf) 50 ((cJ.drop 10).take 2) st:=by
 have hb:short (s.row.map Pc.v)=ae:=cB (by rw[e_];exact aL hl (bw rfl))
 have hc:lQ BK (ai "piece") (.lst (s.row.map Pc.v))=ag (cn (s.row.map Pc.src)):=fC rfl (ez (by rw[Mx,hb];rfl) (KG s.row))
 have hj:gq (cn (s.row.map Pc.src))=ag (b_ s.row):=by rw[tc,M']
 have h5:(short (b_ s.row)&&short (cn (s.row.map Pc.src)))=ae:=by
  rw[show short (b_ s.row)=ae from cB hs,show short (cn (s.row.map Pc.src))=ae from cB (by rw[show(cn (s.row.map Pc.src)).length=_ from e_ ..,e_];exact aL hl (bw rfl))];rfl
 cases H with
 |z=>exact⟨_,.z _ _ _ _ _ _ _ _,λq=>f8 hc hj h5 Rd q⟩
 |n u=>exact⟨_,.n _ _ _ _ _ _ _ _ _,λq=>f9 hc hj h5 Rd q⟩
noncomputable def zc:List aG:=(cJ.drop 1).take 11
theorem aao{d:List V}{rf:V}(T:se l h r)(hr:r.length≤20)(hl:(nj h r).row.length≤500)(hs:(b_ (i_ h r)).length≤1000000)(Rd:Reads [.lst ((i_ h r).map Pc.v),.str (b_ (i_ h r))] (.tup [.lst d,rf])):∃st',uk (b_ (i_ h r)) d rf st' ∧Gv (aN (bB cX) 59 zc (nv x (.v (.lst l))) pk) (.next,st'):=by
 obtain⟨st4,H4,g4⟩:=part4 (x:=x) T hr
 obtain⟨st5,H5,g5⟩:=part5 H4 (aL hl (bw rfl))
 obtain⟨st6,H6,g6⟩:=part6 H5 (by
  show((nj h r).row++_).length≤_
  rw[bE]
  exact aL (tI hl (HI h _).2) (bw rfl)) hs Rd
 refine⟨st6,H6,jn (a:=(cJ.drop 1).take 7) (b:=(cJ.drop 8).take 1++((cJ.drop 9).take 1++(cJ.drop 10).take 2)) (n:=51) (by kernel_rfl) (by kernel_rfl) (part1 T hr ?_)⟩
 refine jn (a:=(cJ.drop 8).take 1) (n:=50) rfl (by kernel_rfl) (g4 ?_)
 exact jn (a:=(cJ.drop 9).take 1) (n:=49) rfl (by kernel_rfl) (g5 (g6 (Gv.leaf _)))
end
section
variable{s:Sc}{d rf t u:FV}{C:aQ}{fs:List (Str×V)}{r:R}
theorem adB(y:FV)(g:FV)(k:Bool→aq→au)(x:V→aq→au)(p:List Bool):k ae (dK s d rf (.v .ak) g t (.v (.obj C fs)) y) p r=iV (bB []) 60 (fK fj) (dK s d rf (.v .ak) g t (.v (.obj C fs)) y) k x p r:=by kernel_rfl
theorem adC(g:FV)(k:Bool→aq→au)(x:V→aq→au)(p:List Bool):k ae (rb s d rf (.v .ak) g t (.v (.obj C fs))) p r=iV (bB []) 60 (fK fj) (rb s d rf (.v .ak) g t (.v (.obj C fs))) k x p r:=by kernel_rfl
theorem ady{y g:FV}(h:Gv (aN (bB []) 60 (bS fj) (dK s d rf (.v .ak) g t (.v (.obj C fs)) y) pk) r):Gv (tA (dK s d rf (.v .ak) g t (.v (.obj C fs)) y)) r:=by
 obtain⟨p,h⟩:=h
 exact Gv.of (ae::p) (adB y g (λb st=>Br b (aN (bB []) 60 (bS fj) st pk) (leaf (.brk,st))) (λv st=>leaf (.exc v,st)) (ae::p)) ⟨rfl,h⟩
theorem adz{g:FV}(h:Gv (aN (bB []) 60 (bS fj) (rb s d rf (.v .ak) g t (.v (.obj C fs))) pk) r):Gv (tA (rb s d rf (.v .ak) g t (.v (.obj C fs)))) r:=by
 obtain⟨p,h⟩:=h
 exact Gv.of (ae::p) (adC g (λb st=>Br b (aN (bB []) 60 (bS fj) st pk) (leaf (.brk,st))) (λv st=>leaf (.exc v,st)) (ae::p)) ⟨rfl,h⟩
theorem NF{st:aq}(h:Gv (aN (bB []) 60 n_ st (pZ (bB []) 58 wY pk)) r):Gv (aN (bB []) 60 (bS fj) st pk) r:=jn (a:=n_) (b:=wY) (n:=57) (by kernel_rfl) (by kernel_rfl) h
end
inductive Px(x y:V):Prop
 |mk (C:aQ) (fs:List (Str×V)) (td:V) (e:x=.obj C fs) (h:∀{s:Sc}{d rf t u:FV}{g:List V}{k:Out→aq→au}{z:R},g.length≤1000000→Gv (k .next (dK s d rf (.v .ak) (.own (g++[y])) t (.v x) (.v td))) z→Gv (aN (bB []) 60 n_ (dK s d rf (.v .ak) (.own g) t (.v x) u) k) z)
theorem adA{x y:V}(i:lM x y):Px x y:=by
 induction i with
 |Bt s=>exact⟨_,_,_,rfl,λhl q=>Xl (.mk s) (.mk s) (cB hl) q⟩
 |be s s' =>exact⟨_,_,_,rfl,λhl q=>Xn (.mk s) (.mk s') (cB hl) q⟩
 |Bh s=>exact⟨_,_,_,rfl,λhl q=>Xm (.mk s) (.mk s) (cB hl) q⟩
 |send s=>exact⟨_,_,_,rfl,λhl q=>Xk (.mk s) (.mk s) (cB hl) q⟩
 |Ab v c s s' =>exact⟨_,_,_,rfl,λhl q=>Xo (.mk s) (.mk s') (cB hl) q⟩
inductive Left(d rf:FV)(G:List V):Option (Sc×Sc)→R→Prop
 |fin (s:Sc) (td:V):Left d rf G bg (.next,dK s d rf (.v .ak) (.own G) (.v .none) (.v .none) (.v td))
 |exc (s1 s2 s:Sc) (a b tk td:V):Left d rf G (ag (s1,s2)) (.exc (.obj 511 (kb a s1.mark b s2.mark)),dK s d rf (.v .ak) (.own G) (.v .none) (.v tk) (.v td))
inductive Gy(d rf:FV)(G:List V)(f:Option (Sc×Sc))(st:aq):Prop
 |mk (q:R) (h:Gv (bo tA st) q) (l:Left d rf G f q)
theorem Yl{d rf:FV}{s:Sc}{l:List V}{f:Option (Sc×Sc)}(O:gX s l f):∀{st:aq}{g:List V}{x td:V},(∀{z},Gv (aN (bB []) 58 wY (dK s d rf (.v .ak) (.own g) (.v .none) (.v x) (.v td)) pk) z→Gv (tA st) z)→g.length+l.length≤1000000→Gy d rf (g++l) f st:=by
 induction O with
 |stop h=>
  intro st g x td T hl
  rw[gv]
  exact⟨_,eZ (T (KQ h (Gv.leaf _))) (iG (YE rfl)),.fin _ _⟩
 |err he h=>
  intro st g x td T hl
  rw[gv]
  induction he with
  |mk a b=>exact⟨_,q9 (T (YF h (Gv.leaf _))),.exc _ _ _ a b _ _⟩
 | @tok s s' x y l f i h r ih=>
  intro st g x0 td T hl
  obtain⟨C,fs,td',e,P⟩:=adA i
  have jM:(g++[y]).length+l.length≤1000000:=by rw[bE];exact aL (pP (jz g.length 1 l.length)) hl
  have I:=ih (st:=dK s' d rf (.v .ak) (.own g) (.v .none) (.v x) (.v td)) (g:=g++[y]) (x:=x) (td:=td') (λ{z} q=>by
   have A:=NF (P (u:=.v td) (t:=.v .none) (aL (dh _ _) hl) q)
   rw[e]at A⊢
   exact ady A) jM
  obtain⟨q,h1,h2⟩:=I
  rw[aR]at h2
  exact⟨q,eZ (T (KQ h (Gv.leaf _))) h1,h2⟩
theorem Yj{d rf:FV}{s a:Sc}{l:List V}{f:Option (Sc×Sc)}(O:gX s l f)(hl:l.length+1≤1000000):Gy d rf (d9 sY .none (bZ a) (bZ a)::l) f (rb s d rf (.v .ak) (.own []) (.v .none) (.v (tX a.mark))):=
 Yl O (g:=[d9 sY .none (bZ a) (bZ a)]) (x:=tX a.mark) (td:=.none) (λq=>adz (NF (Xj (.mk a) (.mk a) rfl q))) (by rw[kq];exact hl)
theorem aej{st:aq}{k:Out→aq→au}{r:R}(h:Gv (iH (bo tA st) (jY (bB cX) 54 k)) r):Gv (aN (bB cX) 55 (wZ.drop 1) st k) r:=by
 obtain⟨p,h⟩:=h
 exact Gv.of p (by kernel_rfl) h
theorem adK{st:aq}{k:Out→aq→au}{r:R}(h:Gv (aN (bB cX) 56 wZ st (D7 (jY (bB cX) 57 k))) r):Gv (aN (bB cX) 58 ((cJ.drop 15).take 1) st k) r:=by
 obtain⟨p,h⟩:=h
 exact Gv.of p (by kernel_rfl) h
theorem Sh(a:Int):aI a a=ae:=oQ.mpr rfl
theorem BN(n:Nat)(a:Int):cN (n+1) (.int a) (.int a)=ag ae:=by show ag (aI a a)=_;rw[Sh]
theorem BO(n:Nat)(a:List Nat):cN (n+1) (.str a) (.str a)=ag ae:=by show ag (aB a a)=_;rw[DQ]
theorem jm{f:V→V→Option Bool}{a:V}{r:List V}(h:f a a=ag ae)(t:iA f r r=ag ae):iA f (a::r) (a::r)=ag ae:=fC h (fC t rfl)
theorem xR{f:V→V→Option Bool}:iA f [] []=ag ae:=rfl
theorem xQ(n:Nat)(s:Sc):cN (n+2) (bZ s) (bZ s)=ag ae:=jm (BN n _) (jm (BN n _) (jm (BN n _) xR))
theorem sz(n:Nat)(id:List Nat)(x:V)(hx:cN (n+2) x x=ag ae)(s s' :Sc):cN (n+3) (d9 id x (bZ s) (bZ s')) (d9 id x (bZ s) (bZ s'))=ag ae:=jm (BO (n+1) id) (jm hx (jm (xQ n s) (jm (xQ n s') xR)))
inductive Due(y:V):Prop
 |mk (e:cN 7 y y=ag ae) (n:dT y=ae)
theorem adF{x y:V}(i:lM x y):Due y:=by
 induction i with
 |Bt s=>exact⟨sz 4 _ _ rfl _ _,rfl⟩
 |be s s' =>exact⟨sz 4 _ _ rfl _ _,rfl⟩
 |Bh s=>exact⟨sz 4 _ _ rfl _ _,rfl⟩
 |send s=>exact⟨sz 4 _ _ rfl _ _,rfl⟩
 |Ab v q s s' =>exact⟨sz 4 sX (.tup [.str v,.bool af,.str [q]]) (jm (f:=cN 5) (BO 4 v) (jm (a:=.bool af) rfl (jm (BO 4 [q]) xR))) s s',rfl⟩
theorem LR{s:Sc}{l:List V}{f:Option (Sc×Sc)}(O:gX s l f):iA (cN 7) l l=ag ae∧d6 l=ae:=by
 induction O with
 |stop=>exact⟨rfl,rfl⟩
 |err=>exact⟨rfl,rfl⟩
 |tok i h r ih=>
  obtain⟨h1,h2⟩:=adF i
  exact⟨jm h1 ih.1,by show(dT _&&d6 _)=ae;rw[h2,ih.2];rfl⟩
noncomputable def pT(f:Option (Sc×Sc)):V:=pO f .none λp=> .tup [bZ p.1,bZ p.2]
noncomputable def j8(a:Sc)(l:List V):List V:=d9 sY .none (bZ a) (bZ a)::l
inductive Pk(a:au):Prop
 |mk (loc:FS) (self:Self) (g:Gv a (.ret (.bool ae),⟨loc,self,af⟩))
theorem aap{s0 s1 a:Sc}{l:List V}{f:Option (Sc×Sc)}(h1:Gives fP [.ak] s0 (.ok (tX a.mark)) s1)(O:gX s1 l f)(hl:l.length+1≤1000000):Pk (aN (bB cX) 60 (cJ.drop 13) (zf s0 (.v (.lst (j8 a l))) (.v (pT f))) pk):=by
 have E:cN 8 (.lst (j8 a l)) (.lst (j8 a l))=ag ae:=show iA (cN 7) (j8 a l) (j8 a l)=ag ae from jm (sz 4 sY .none rfl a a) (LR O).1
 obtain⟨q,g,L⟩:=Yj (d:=.v (.lst (j8 a l))) (rf:=.v (pT f)) (a:=a) O hl
 have X:∀{z},Gv (D7 (jY (bB cX) 57 (pZ (bB cX) 57 (cJ.drop 16) pk)) q.1 q.2) z→Gv (aN (bB cX) 60 (cJ.drop 13) (zf s0 (.v (.lst (j8 a l))) (.v (pT f))) pk) z:=λh=>
  jn (a:=(cJ.drop 13).take 2) (b:=(cJ.drop 15).take 1++cJ.drop 16) (n:=57) (by kernel_rfl) (by kernel_rfl) (c1 (jn (a:=(cJ.drop 15).take 1) (b:=cJ.drop 16) (n:=56) rfl (by kernel_rfl) (adK
   (jn (a:=wZ.take 1) (b:=wZ.drop 1) (n:=54) (by kernel_rfl) (by kernel_rfl) (c2 h1 (aej (y_ g (by rw[mq];exact h))))))))
 rw[mq]at X
 cases L with
 |fin s td=>exact⟨_,_,X (zs (y1:=.bool ae) (y3:=ae) (y6:=.bool ae) (by rw[show cN 8 (.lst (d9 sY .none (bZ a) (bZ a)::l)) (.lst (j8 a l))=ag ae from E];rfl) rfl rfl rfl (Gv.leaf _))⟩
 |exc s2 s3 s b c tk td=>
  have E2:cN 8 (.tup [bZ s2,bZ s3]) (.tup [bZ s2,bZ s3])=ag ae:=jm (xQ 5 s2) (jm (xQ 5 s3) xR)
  exact⟨_,_,X (ca (.mk s2) (.mk s3) (zn (y1:=.bool ae) (y3:=ae) (y6:=.bool ae) (by rw[show cN 8 (.lst (d9 sY .none (bZ a) (bZ a)::l)) (.lst (j8 a l))=ag ae from E];rfl) rfl rfl (by rw[show cN 8 (.tup [bu s2.idx s2.cI s2.col,bu s3.idx s3.cI s3.col]) (pT (ag (s2,s3)))=ag ae from E2];rfl) (Gv.leaf _)))⟩
theorem Hn{p:Pc}(h:gj p=ae):p.Small∧kl p.src=ae:=by
 obtain⟨h1,h⟩:=aF h
 obtain⟨h2,h3⟩:=aF h
 exact⟨⟨bw h1,bw h2⟩,h3⟩
theorem M_:∀{row:List Pc},mA row→kl (b_ row)=ae∧(b_ row).length≤16*row.length
 | [],_=>⟨rfl,eF _⟩
 |p::r,h=>by
  obtain⟨⟨h1,_⟩,h2⟩:=Hn (h p (.head _))
  obtain⟨h3,h4⟩:=M_ (row:=r) λq hq=>h q (.tail _ hq)
  refine⟨?_,?_⟩
  ·show((p.src++b_ r).all nE)=ae
   rw[List.all_append,show p.src.all nE=ae from h2,show(b_ r).all nE=ae from h3];rfl
  ·show(p.src++b_ r).length≤16*r.length+16
   rw[bE,kq]
   exact tI h4 h1
theorem ZU{t:List Nat}(h:kl t=ae):∀y∈t,(y==0)=af:=λy hy=>dM (List.all_eq_true.mp (show Ew.all (λy=>!(y==0))=ae by kernel_rfl) y (List.contains_iff_mem.mp (List.all_eq_true.mp h y hy)))
inductive Pm(row:List Pc):Prop
 |mk (ord:Bool) (bt mm:List Nat) (e:j7) (g:Seg) (gs:List Seg) (js:Jj bt mm) (hb:∀p∈g.body,de g.d p) (hg:∀g' ∈gs,∀p∈g'.body,de g'.d p) (h:row=rowOf ord bt e g gs)
theorem Xx(h:Int)(r:List Int):Pm (i_ h r):=by
 obtain⟨body,gs,hb,hg,e⟩:=Co (eu h) h r 0 (d0 h) (j0 h) [] dw
 obtain⟨mm,js⟩:=QF h
 rw[gv]at e
 refine⟨lI h,eu h,mm,endOf h,⟨d0 h,body⟩,gs,js,hb,hg,e.trans ?_⟩
 unfold j0 rowOf
 cases lI h<;>rfl
theorem Kc(h:Int){r:List Int}(hr:r.length≤20):mA (i_ h r)∧(nj h r).row.length≤35∧(i_ h r).length≤37:=by
 have B0:oD ⟨0,d0 h,j0 h⟩ 0:=by
  unfold j0
  refine⟨?_,?_,gx _⟩
  ·cases lI h<;>cases d0 h<;>exact uC (by kernel_rfl)
  ·cases lI h<;>exact bw rfl
 have B:=ID (h:=h) r B0
 obtain⟨h1,h2,h3⟩:=B
 obtain⟨h4,h5⟩:=HI h (nj h r).d
 have h6:(nj h r).row.length≤35:=aL h2 (tI (by rw[fY];exact c8 hr 3) (nH 3 h3))
 refine⟨A8 h1 h4,h6,?_⟩
 show((nj h r).row++_).length≤_
 rw[bE]
 exact tI h6 h5
theorem abi{text:List Nat}{row:List Pc}(P:∀q∈row,q.Small){d:List V}{x:V}(e:tQ text row=.tup [.lst d,x]):d.length≤2*row.length+3:=by
 have G:=Fh (text:=text) (s:=Lr.init) (n:=0) row ⟨eF _,eF _⟩ P
 rw[fY]at G
 unfold tQ at e
 generalize Lr.run text row Lr.init=z at e G
 induction G with
 |out d' x' h=>cases e;exact aL h (dh _ 2)
 | @go s F=>
  obtain⟨D,_⟩:=F
  have e:s.ended=.tup [.lst d,x]:=e
  unfold Lr.ended at e
  cases hi:s.ins with
  |true=>rw[hi]at e;cases e;exact aL D (dh _ 2)
  |false=>
   rw[hi]at e;cases e
   rw[bE]
   exact gw D 2
inductive Pw(text:List Nat)(row:List Pc):Prop
 |mk (s1:Sc) (l:List V) (f:Option (Sc×Sc)) (ok:kl text=ae) (ht:text.length≤1000) (R:Reads [.lst (row.map Pc.v),.str text] (.tup [.lst (j8 (rG text) l),pT f]))
  (h1:Gives fP [.ak] (Aa text) (.ok (tX (rG text).mark)) s1) (O:gX s1 l f) (hl:l.length+1≤1000000)
theorem ado(h:Int){r:List Int}(hr:r.length≤20):Pw (b_ (i_ h r)) (i_ h r):=by
 obtain⟨hc,_,hlen⟩:=Kc h hr
 obtain⟨ok,hs⟩:=M_ hc
 have ht:(b_ (i_ h r)).length≤1000:=aL hs (aL (nH 16 hlen) (bw rfl))
 obtain⟨ord,bt,mm,e,g,gs,js,hb,hg,eR⟩:=Xx h r
 have P:∀q∈i_ h r,q.Small:=λq hq=>(Hn (hc q hq)).1
 generalize vH:b_ (i_ h r)=text at ok ht
 generalize i_ h r=row at*
 have K:=adG (ord:=ord) (e:=e) (g:=g) (gs:=gs) (text:=text) (by rw[←eR];exact vH) (ZU ok) (aL ht (bw rfl)) js hb hg (s:=rG text) ⟨rfl,rfl,rfl⟩ ⟨[],rfl,rfl⟩
 rw[←eR]at K
 obtain⟨l,f,o,ev⟩:=K
 have ev:tQ text row=.tup [.lst (j8 (rG text) l),pT f]:=ev
 have hl:=abi P ev
 refine⟨_,l,f,ok,ht,?_,I6 (gx _),o (0+1),?_⟩
 ·rw[←ev]
  cases row with
  |nil=>cases ord<;>cases eR
  |cons p q=>exact .mk text p q P (aL (wt hlen) (bw rfl))
 ·exact aL hl (aL (gw (nH 2 hlen) 3) (bw rfl))
noncomputable def scI{W:Wd}{G:aX}(ad:aQ)(vs:Array ao)(l:List V):cD W G:=⟨Unit,λκ _ _=>κ.c.h₀.IsList ad vs∧aS W [] 0 l vs.toList,λ_ _ _ _ _ h=>h⟩
def abO(ad:aQ)(v:V)(i j:Option V)(k:au):au:=λp r=>(v=.eV (.ref ad)∧i=bg∧j=ag (.int 21))∧k p r
theorem Rel.isList{W:Wd}{x:aQ}{c:Act}{st:aq}{a:Cf}{ad:aQ}{vs:Array ao}(h:c.h₀.IsList ad vs):Rel W x c st a→a.s.heap.IsList ad vs
 |.mk _ _ _ _ (.mk _ F _ _) _=>by
  obtain⟨o,e,h⟩:=h
  exact⟨o,F.keep _ _ e,h⟩
section
variable{W:Wd}{X:bU}{G:aX}{κ:aW W G}{a:Cf}{st:aq}{n:Nat}{k:Out→aq→au}{rr:R}{ad:aQ}{vs:Array ao}{I:List Int}{Q:ao→ay→Prop}{E:ao→ay→Prop}
theorem JQ:∀{I:List Int}{vs:List ao}{fz bz:Cells}{x x' :aQ},aS W fz x (dA I) vs→aS W bz x' (dA I) vs
 | [],_,_,_,_,_,h=>h
 |i::I,_,_,_,_,_,h=>by
  obtain⟨v,r,hv,hr⟩:=h
  exact .mk v r hv (JQ hr)
theorem Rt{value:aw}{lo hi:Option aw}{p:zG}{vi vj:ao}(R:Rl W κ st a)(hn:isName value=ae)(hL:κ.c.h₀.IsList ad vs)(hv:aS W [] 0 (dA I) vs.toList)(hl:I.length≤1000000)(K:Kv κ st (.lst (dA (I.take 21))) a Q)(pi:PR W a.fz κ.x bg vi)(pj:PR W a.fz κ.x (ag (.int 21)) vj):
 aA W.M κ.A (subscriptTail value (.Slice lo hi bg p) (.ref ad) (.ref a.s.heap.objs.size)) Q E (pushS a.s (mw vi vj)):=by
 obtain⟨id,np,rfl⟩:=KS hn
 have e1:((dA I).take 21).drop 0=dA (I.take 21):=(List.map_take).symm
 rw[←e1]at K
 have hb:short (dA I)=ae:=cB (by rw[show(dA I).length=I.length from e_ ..];exact hl)
 have hs:vs.size=(dA I).length:=hv.size
 refine slice_listK (R.isList hL) (pi.part (.none (n:=0) (d:=0) rfl)) (pj.part (d:=vs.size) (n:=21) .int) ?_ rfl (λr=>rfl) (hs▸lK hb)
 rw[L7 (.none rfl) .int,show a.s.heap.objs.size+1=(a.s.heap.push (mw vi vj)).objs.size from(zD ..).symm]
 exact K (((a.to (pushS a.s (mw vi vj))).fr _ _)) _ ((Le.to (.mk _ _)).trans (Le.fr (.mk _ _))) (cf.mk _ _ 0 (.here _ _) ((((JQ hv).take 21).drop 0).up (Sub.refl _))) ((Mf (o:=mw vi vj) R).push (o:=cM ((vs.toList.take 21).drop 0).toArray 0) rfl)
theorem adn(H:gJ W X G n){id z Fi:Str}{np px sp p2 p3 vp pos:zG}{elt Bv:aw}{sc:Scope}{ys:List V}(hk:isLocal (G.kind id)=ae)(hc:(qt sc z&&(G.quiet&&(aH np.line vp.line&&(kL (λy _=>!(seq y id)) sc.names&& !(seq z oN)))))=ae)(hl:I.length≤1000000)
 (hm:lQ elt z (.lst (dA (I.take 21)))=ag ys)
 (h:Gv (bc G n (.Name Fi sp) st (λv st=>mR G n bg st (λi st=>mR G n (ag Bv) st (λj st=>abO ad v i j (k .next (d7 id (.lst ys) st))) (exc k)) (exc k)) (exc k)) rr):
 Rz X (scI ad vs (dA I)) af (λκ _=>aA W.M κ.A (exec (.Assign [.Name id np] (.ListComp elt [⟨.Name z px,.Subscript (.Name Fi sp) (.Slice bg (ag Bv) bg p2) p3,[],0⟩] sc vp) pos) κ.env)) st (g8 W G) k (exc k) rr:=by
 obtain⟨c1,hc⟩:=aF hc
 obtain⟨c3,hc⟩:=aF hc
 obtain⟨c4,hc⟩:=aF hc
 obtain⟨c5,c6⟩:=aF hc
 have o:=BC c1
 refine aD hm λl i6 hm=>bK hm λhs hm=>?_
 have i6:dA (I.take 21)=l:=fX i6
 rw[←i6]at hs hm
 refine Rz.as (λκ i Q E s=>Ht o rfl (Nu hk c4 c5)) (Rz.bind (A:=vA) (F:=λκ i va Q E s=>aeO κ sc z elt va (xt κ id Q E) E s) (k₁:=λ(v:V)(st:aq)=>λp r=>v=V.lst (dA (I.take 21))∧k .next (d7 id (.lst ys) st) p r)
  (Rz.as (λκ i Q E s=>Subscript_) (Rz.bind (H.E h) λb bj h=>Rz.as (λκ i Q E s=>wpAny_Slice) (Rz.bind (H.P h) λi dc h=>Rz.bind (H.P h) λj dG h=>?_))) ?_)
 ·obtain⟨p,⟨e1,e2,e3⟩,q0⟩:=h
  subst e1;subst e2;subst e3
  refine Rz.leaf (V.lst (dA (I.take 21))) dG ⟨p,rfl,q0⟩ λκ a q Q E hi R K=>dv ?_
  have hv:_=jV ad∧_:=hi.1.1.2
  rw[hv.1]
  exact Rt R rfl hi.1.1.1.1 hi.1.1.1.2 hl (λd v l hv R' =>K d v l ⟨hv,R'⟩) hi.1.2 hi.2
 ·intro v bj h
  obtain⟨p,e,h⟩:=h
  subst e
  exact Rz.leaf .next _ ⟨p,h⟩ λκ a i Q E hi R K=>
   BD o (BI c6) (κ.quiet c3) (aF hs).1 (aF hs).2 hm R (λD C h' tk m' us cc i4 hD hC hn hp hv keep=>Nh hk i4 hD hC hn hp hv keep R λd l R' =>K d .next l.weak ⟨rfl,R'⟩) (jS rfl hi.2)
end
section
variable{W:Wd}{X:bU}{G:aX}{κ:aW W G}{a:Cf}{st:aq}{n:Nat}
def kE(v:V)(st:aq):au:=leaf (.ret v,st)
def DE(vs:List V)(st:aq):au:=leaf (.ret (.lst vs),st)
theorem ZT(H:gJ W X G n){e:aw}{v:V}{st' :aq}(h:Gv (bc G n e st kE λ_ _=>fail) (.ret v,st')):∀κ:aW W G,∀a,uq W κ ae a (aA W.M κ.A (eval e κ.env)) st (vA.p κ v st'):=by
 rcases(H.E h (J:=cD.nil))with⟨y,pY,H1,h1⟩|⟨y,pY,H1,h1⟩
 ·have e:=So h1
  cases e
  exactλκ a=>H1 κ a () trivial
 ·exact No h1
theorem ZS(H:gJ W X G n){es:List aw}{vs:List V}{st' :aq}(hu:j2 es=ae)(h:Gv (dS G n es st DE λ_ _=>fail) (.ret (.lst vs),st'))(pos:zG):∀κ:aW W G,∀a,uq W κ ae a (aA W.M κ.A (spliced (backTo pos (starEach es κ.env)))) st (sA.p κ vs st'):=by
 rcases(H.A hu h (J:=cD.nil) pos)with⟨y,pY,H1,h1⟩|⟨y,pY,H1,h1⟩
 ·have e:=So h1
  cases e
  exactλκ a=>H1 κ a () trivial
 ·exact No h1
noncomputable def su:Str:=ai "due"
noncomputable def tR:Str:=ai "refused"
noncomputable def adO(D:List V)(rf:V)(fs:FS):aq:=⟨[(su,.v (.lst D)),(tR,.v rf)],ag (1048,fs),af⟩
theorem PK{fz bz:Cells}{x x' :aQ}{c1:Cells}{l:Str→aQ}{m:Str→Option ao}{loc:FS}{D:List V}{rf:V}(L:AR W fz x c1 l m loc)(hd:aV su loc=ag (.v (.lst D)))(hr:aV tR loc=ag (.v rf))(nD:d6 D=ae)(nr:dT rf=ae)(hf:Sub fz bz):AR W bz x' [] l m [(su,.v (.lst D)),(tR,.v rf)]:=AR.nil λa y h=>by
 have A:=L.at_ hd
 have B:=L.at_ hr
 unfold aV at h
 cases q:seq a su with
 |true=>
  rw[q]at h;cases h
  rw[eN.mp q]
  exact⟨rfl,A.up λv r=>(VR.re (y:=.lst D) nD r).up hf⟩
 |false=>
  rw[q]at h
  unfold aV at h
  cases q2:seq a tR with
  |true=>
   rw[q2]at h;cases h
   rw[eN.mp q2]
   exact⟨rfl,B.up λv r=>(VR.re nr r).up hf⟩
  |false=>rw[q2]at h;cases h
theorem abN(H:gJ W X G n){mean:ExcName→Option ao}(T:Top W.p W.loose mean W.mg W.mb κ.c.h₀){Ho tid:Str}{p2 p3 p4:zG}{t:List Nat}{D:List V}{rf:V}{fs:FS}(aeE:st.self=bg)(h0:6≤G.dep -1∧0<G.dep)(hq:G.quiet=ae)(hm:rh W.K 1048 550=ae)(hI:AJ W 6 ae 550 [.ak,.str t] (ag (1048,[])) (ag (1048,fs)))
 (h1:Gv (bc G n (.Name Ho p2) st kE λ_ _=>fail) (.ret (.eV (.ref 1048)),st)) (h2:Gv (dS G n [.Name tid p3] st DE λ_ _=>fail) (.ret (.lst [.str t]),st)) (hd:aV su st.loc=ag (.v (.lst D))) (hr:aV tR st.loc=ag (.v rf)) (nD:d6 D=ae) (nr:dT rf=ae)
 (R:Rl W κ st a) {Q:ao→ay→Prop} {E:ao→ay→Prop} (K:∀x' d,Rel W x' κ.c (adO D rf fs) d→cU a.s d.s→Q (.ref x') d.s):aA W.M κ.A (eval (.Call (.Name Ho p2) [.Name tid p3] [] p4) κ.env) Q E a.s:=by
 obtain⟨m1,m2,m3,m4⟩:=D_ hm
 refine wpAny_Call_Name_kw (ZT H h1 κ a a _ E (Le.refl a) R λd v ld hv=>?_)
 obtain⟨hv,R1⟩:=hv
 rw[(hv:v=.ref 1048∧_).1]
 have hu:j2 [ic tid p3]=ae:=rfl
 refine callWith_of (P:=W.K.In) (by rw[(rQ hu).2];rfl) (vO m4) (sC hu rfl (ZS H hu h2 p4 κ d d _ E (Le.refl d) R1 λb vals lb hw=>kwAll_nil ?_))
 obtain⟨hw,R2⟩:=hw
 refine⟨R2.bX κ.hA.bX,?_⟩
 obtain⟨m,c1,f,e,⟨c2,F,HH,S⟩,L⟩:=R2
 refine call_cls F κ.hA.bX HH.N m1 m2 m3 λx' dx h' F' N' dJ CV=>codeAny_mono (hI ⟨λ_=>0,instObj 1048 dx⟩ x' κ.c _ m (c2++(c1++b.rest)) b.fz {b.s with heap:=h' } _ mean (AZ κ.hA) (λ_=>κ.quiet hq) ?_ T (.mk [(x',instObj 1048 dx),(dx,dictOf [] 0)] F' ?_ (.mk dx [] 0 [] rfl rfl rfl (eF _) ⟨rfl,λ_ _=>rfl⟩ ⟨λh=>no h,λh=>no h⟩)) (xb (aS.re rfl hw))) λres s' q=>?_
 ·have:=Fg (C:=1048) (pos:=vals) (kw:=[]) h0.2 κ.room
  exact⟨lF (c8 h0.1 _) this.1,lF (c8 (nH 8 h0.1) _) this.2⟩
 ·rw[show[(x',instObj 1048 dx),(dx,dictOf [] 0)]++((c2++(c1++b.rest))++b.fz)=(x',instObj 1048 dx)::(dx,dictOf [] 0)::(c2++((c1++b.rest)++b.fz))from congrArg (λl=>_::_::l) (aR ..)]
  exact Hp.two N' dJ CV HH.D
 ·obtain⟨qa,bz,hf,C',u⟩:=q
  exact⟨rfl,K x' ⟨⟨qa,b.π.l⟩,c2++(c1++b.rest),bz,s'⟩ ⟨m,[],qa,.inr rfl,C',PK L hd hr nD nr hf⟩ (ld.u.trans (lb.u.trans (cU.trans (.mk h' _) u)))⟩
end
theorem H8(env:Env):∀(a b:List aG),execs (a++b) env=(execs a env>>=λfl=>match fl with|.next=>execs b env|f=>pure f)
 | [],b=>by rw[List.nil_append,PySem.execs_nil,pure_bind]
 |s::a,b=>by
  rw[zx,PySem.execs_cons,PySem.execs_cons,bind_assoc]
  congr 1
  funext fl
  cases fl with
  |next=>exact H8 env a b
  |_=>exact(pure_bind _ _).symm
theorem aep{M:Model}{A:eK}{env:Env}{a b:List aG}{Q:Flow→ay→Prop}{E:ao→ay→Prop}{s:ay}(h:aA M A (execs a env) (λfl s' =>fl=.next∧aA M A (execs b env) Q E s') E s):aA M A (execs (a++b) env) Q E s:=by
 rw[H8]
 refine bq (iK h (λfl s' q=>?_) λ_ _ q=>q)
 rw[q.1];exact q.2
theorem bY.z{W:Wd}{X:bU}{G:aX}{cA:aG}{F:Lp}(H:bY W X G cA F):bY W X G cA (za F):=H.by λst k r h=>by
 obtain⟨p,l,h1,h2⟩:=h
 exact⟨_,_,h1,p,h2⟩
section
variable{W:Wd}(hK:W.K=K W.w.params)
include hK
theorem TP:cK W 14 Iw:=
 (((((cK.nil (W:=W) (D:=14)).cons (cE hK (by kernel_rfl)) ((L9 hK).mono (D' :=14) (q' :=ae) (by decide) λh=>nt h) (eF 14)).cons (cE hK (by kernel_rfl)) (Vb hK) (eF 14)).cons (cE hK (by kernel_rfl)) (oM (l:=jH) hK (m:="_law_BETWEEN") (Gi hK) (by kernel_rfl) λ_=>by kernel_rfl) (by decide)).cons (cE hK (by kernel_rfl)) (abg hK) (by decide)).cons (cE hK (by kernel_rfl)) (aar hK) (by decide)
theorem D8(loops:List (Nat×Lp)):cb W (FX W) (bB loops):=by
 have H:=mD hK q7 loops (D:=14) (by decide) (TP hK)
 exact⟨H.keeps,H.ctors,H.jq,H.attrs,H.meths,H.fns,H.jI,H.insts,λq hq=>by rw[List.mem_singleton.mp hq];exact⟨cE hK (by kernel_rfl),(L9 hK).mono (bw rfl) λh=>nt h⟩,H.g7⟩
theorem Kt:du W (FX W) (bB cX) [.For (eI eQ) (eX eQ) (bS eQ) [] eQ.pos,.While (fK fj) (bS fj) [] fj.pos]:=
 du.cons (G:=bB []) (F:=za ze) (by kernel_rfl) (bY.z (bY.o6 (G:=bB []) (l:=[]) (Cp (D8 hK []) (ji W) (rC W) rfl (l_ (by kernel_rfl)))))
  (du.cons (G:=bB []) (F:=Az (bB []) (fK fj) (bS fj)) (by kernel_rfl) (bY.o6 (G:=bB []) (l:=[]) (NV (D8 hK []) (ji W) (rC W) (l_ (by kernel_rfl)))) dw)
theorem X2:du W (FX W) (bB cX) (cC zc):=by
 rw[show cC zc=[.For (eI eQ) (eX eQ) (bS eQ) [] eQ.pos]by kernel_rfl]
 exactλs hs=>Kt hK s (by rw[List.mem_singleton.mp hs];exact .head _)
theorem X3:du W (FX W) (bB cX) (cC (cJ.drop 13)):=by
 rw[show cC (cJ.drop 13)=[.While (fK fj) (bS fj) [] fj.pos]by kernel_rfl]
 exactλs hs=>Kt hK s (.tail _ hs)
end
noncomputable def nN:Str:=ai "n"
noncomputable def wF:Str:=ai "script"
noncomputable def uU:aw:=.BinOp (.Name nN ⟨1163,12,1163,13⟩) .Mod (.Constant (.int 5040) 0 ⟨1163,16,1163,20⟩) ⟨1163,12,1163,20⟩
noncomputable def Kx:Scope:={kind:=.function,names:=[(ai ".0",.local),(nN,.local)],isGenerator:=af,isCoroutine:=af}
noncomputable def Kw:aG:=.Assign [.Name (ai "tape") ⟨1163,4,1163,8⟩] (.ListComp uU [⟨.Name nN ⟨1163,25,1163,26⟩,.Subscript (.Name wF ⟨1163,30,1163,36⟩) (.Slice bg (ag (.Constant (.int 21) 0 ⟨1163,38,1163,40⟩)) bg ⟨1163,37,1163,40⟩) ⟨1163,30,1163,41⟩,[],0⟩] Kx ⟨1163,11,1163,42⟩) ⟨1163,4,1163,42⟩
noncomputable def Yi:aG:=.Assign [.Name (ai "scanner") ⟨1186,4,1186,11⟩] (.Call (.Name (ai "Scanner") ⟨1186,14,1186,21⟩) [.Name (ai "text") ⟨1186,22,1186,26⟩] [] ⟨1186,14,1186,27⟩) ⟨1186,4,1186,27⟩
theorem Yh:cJ=Kw::(zc++(Yi::cJ.drop 13)):=by kernel_rfl
noncomputable def nx(I:List Int):List Int:=(I.take 21).map (· %5040)
theorem KD:∀(I:List Int),pE uU nN (dA I)=ag (dA (I.map (· %5040)))
 | []=>rfl
 |i::I=>fC (show oR 20 uU [(nN,.int i)]=ag (.int (i%5040))by kernel_rfl) (fC (KD I) rfl)
theorem Ms:∀(I:List Int),jZ (dA I)=ae
 | []=>rfl
 |i::I=>Ms I
theorem Rc{I:List Int}(hl:I.length≤1000000):lQ uU nN (.lst (dA (I.take 21)))=ag (dA (nx I)):=by
 have hb:short (dA (I.take 21))=ae:=cB (by rw[show(dA (I.take 21)).length=_ from e_ ..,zz];exact aL (EG _ _) hl)
 exact fC rfl (ez (by rw[Ms,hb];rfl) (KD _))
inductive Pu(l:List V):Prop
 |mk (h:Int) (r:List Int) (T:se l h r) (hr:r.length≤20)
theorem adp(I:List Int):Pu (dA (nx I)):=by
 have hl:(nx I).length≤21:=by unfold nx;rw[e_,zz];exact Nat.min_le_left _ _
 generalize nx I=T at hl
 cases T with
 |nil=>exact⟨0,[],.nil,gx _⟩
 |cons h r=>exact⟨h,r,.cons h r,ED hl⟩
theorem JP{W:Wd}{fz:Cells}{x:aQ}:∀{vs:List ao}{I:List Int},IntsAre vs I→aS W fz x (dA I) vs
 |_,_,.nil=>rfl
 |_,_,.cons n t h=> .mk _ _ (.mk t) (JP h)
noncomputable def zd(ad:aQ):aq:=⟨[(wF,.v (.eV (.ref ad)))],bg,af⟩
def kO(o:Out)(st:aq):au:=leaf (o,st)
noncomputable def FJ(ad:aQ)(ys:List V):R:=(.next,nv (.v (.eV (.ref ad))) (.v (.lst ys)))
inductive AL(c:Act)(s:ay):Flow→ay→Prop
 |mk (m' :Str→Option ao) {s' :ay} (F:Fr c.h₀ c.L s'.heap m') (u:cU s s'):AL c s (.ret (.bool ae)) s'
inductive Pp(text:List Nat)(D:List V)(rf:V)(st:aq):Prop
 |mk (h0:st.self=bg) (h1:Gv (bc (bB cX) 60 (.Name (ai "Scanner") ⟨1186,14,1186,21⟩) st kE λ_ _=>fail) (.ret (.eV (.ref 1048)),st)) (h2:Gv (dS (bB cX) 60 [.Name (ai "text") ⟨1186,22,1186,26⟩] st DE λ_ _=>fail) (.ret (.lst [.str text]),st)) (hd:aV su st.loc=ag (.v (.lst D))) (hr:aV tR st.loc=ag (.v rf))
noncomputable def rE(v:V)(st:aq):R:=(.ret v,st)
theorem abM{text:List Nat}{D:List V}{rf:V}{st:aq}(H:uk text D rf st):Pp text D rf st:=by
 induction H with
 |z a b c e f g h i=>exact⟨rfl,Gv.of [] (E:=rE (.eV (.ref 1048)) (tw a b c e f g h i (.v (.str text)) (.v (.lst D)) (.v rf))=rE (.eV (.ref 1048)) (tw a b c e f g h i (.v (.str text)) (.v (.lst D)) (.v rf))) (by kernel_rfl) rfl,Gv.of [] (E:=rE (.lst [.str text]) (tw a b c e f g h i (.v (.str text)) (.v (.lst D)) (.v rf))=rE (.lst [.str text]) (tw a b c e f g h i (.v (.str text)) (.v (.lst D)) (.v rf))) (by kernel_rfl) rfl,by kernel_rfl,by kernel_rfl⟩
 |n a b c e f g h i j=>exact⟨rfl,Gv.of [] (E:=rE (.eV (.ref 1048)) (tx a b c e f g h i j (.v (.str text)) (.v (.lst D)) (.v rf))=rE (.eV (.ref 1048)) (tx a b c e f g h i j (.v (.str text)) (.v (.lst D)) (.v rf))) (by kernel_rfl) rfl,Gv.of [] (E:=rE (.lst [.str text]) (tx a b c e f g h i j (.v (.str text)) (.v (.lst D)) (.v rf))=rE (.lst [.str text]) (tx a b c e f g h i j (.v (.str text)) (.v (.lst D)) (.v rf))) (by kernel_rfl) rfl,by kernel_rfl,by kernel_rfl⟩
theorem Xw{x:aQ}{c:Act}{W:Wd}{G:aX}{κ:aW W G}{a d:Cf}{f:Flow}{st:aq}(h:g8 W G κ (.ret (.bool ae)) st d f)(u:cU a.s d.s):AL κ.c a.s f d.s:=by
 obtain⟨⟨v,hv⟩,R⟩:=h
 obtain⟨m,c1,f,e,⟨c2,F,H,S⟩,L⟩:=R
 rw[(hv:v=.bool ae)]
 exact⟨m,F,u⟩
section
variable{W:Wd}(hK:W.K=K W.w.params)(hP:W.prog=pw)
include hK hP
theorem Xy{mean:ExcName→Option ao}{c:Act}{A:eK}(hA:il W c A)(vv:c.base=c.h₀)(Js:c.scope=bP q7)(T:Top W.p W.loose mean W.mg W.mb c.h₀)(hh:A.handled=bg)(hr:kI A 14)
 {s:ay} {m:Str→Option ao} (F:Fr c.h₀ c.L s.heap m) {ad:aQ} {vs:Array ao} {I:List Int} (hm:m wF=ag (.ref ad)) (hL:c.h₀.IsList ad vs) (hI:IntsAre vs.toList I) (hlen:I.length≤63):
 aA W.M A (execs cJ c.env) (AL c s) (λ_ _=>False) s:=by
 have Jp:I.length≤1000000:=aL hlen (bw rfl)
 have hG:=D8 hK cX
 let κ:aQ→aW W (bB cX):=λx=>{x:=x,c:=c,A:=A,hA:=hA,quiet:=λ_=>hh,room:=hr,top:=λ_=>vv,kind:=λy=>by show aV y (bP q7).names=c.scope.names.lookup y;rw[Js];exact l9 y _,hd:=by show c.scope.names.lookup _=bg;rw[Js];kernel_rfl}
 have R0:Rl W (κ 0) (zd ad) ⟨⟨⟨λ_=>0,default⟩,λ_=>0⟩,[],[],s⟩:=.mk m [] ⟨λ_=>0,default⟩ (.inr rfl) (.mk [] F ⟨News.nil,.nil⟩ trivial) (AR.nil λa y h=>by
  unfold zd aV at h
  cases q:seq a wF with
  |true=>rw[q]at h;cases h;rw[eN.mp q];exact⟨rfl,.ref ad,hm,rfl,rfl⟩
  |false=>rw[q]at h;cases h)
 obtain⟨h,r,TI,CY⟩:=adp I
 obtain⟨s1,l,f,ok,ht,Rd,g1,O,hl⟩:=ado h CY
 obtain⟨_,hS,_⟩:=Kc h CY
 obtain⟨stA,HD,gA⟩:=aao (x:=.v (.eV (.ref ad))) TI CY (aL hS (bw rfl)) (aL ht (bw rfl)) Rd
 obtain⟨loc,dC,gC⟩:=aap g1 O hl
 obtain⟨_,nD⟩:=LR O
 have RT:=adn (ad:=ad) (vs:=vs) (I:=I) (k:=kO) (rr:=FJ ad (dA (nx I))) (st:=zd ad) (n:=60) (X:=FX W) (G:=bB cX) (rO hG 60) (id:=ai "tape") (z:=nN) (Fi:=wF) (np:=⟨1163,4,1163,8⟩) (px:=⟨1163,25,1163,26⟩) (sp:=⟨1163,30,1163,36⟩) (p2:=⟨1163,37,1163,40⟩) (p3:=⟨1163,30,1163,41⟩) (vp:=⟨1163,11,1163,42⟩) (pos:=⟨1163,4,1163,42⟩) (elt:=uU) (Bv:=.Constant (.int 21) 0 ⟨1163,38,1163,40⟩) (sc:=Kx) (by kernel_rfl) (by kernel_rfl) Jp (Rc Jp)
  (Gv.of [] (E:=(V.eV (.ref ad)=V.eV (.ref ad)∧(bg:Option V)=bg∧ag (V.int 21)=ag (V.int 21))∧FJ ad (dA (nx I))=FJ ad (dA (nx I))) (by kernel_rfl) ⟨⟨rfl,rfl,rfl⟩,rfl⟩)
 have XT:∀a Q E,Rl W (κ 0) (zd ad) a→(∀d fl,fl=.next→Rl W (κ 0) (nv (.v (.eV (.ref ad))) (.v (.lst (dA (nx I))))) d→cU a.s d.s→Q fl d.s)→aA W.M A (exec Kw c.env) Q E a.s:=λa Q E R k=>by
  rcases RT with⟨o,st',H,h⟩|⟨y,st',H,h⟩
  ·have e:=So h
   cases e
   exact H (κ 0) a () ⟨hL,JP hI⟩ a Q E (Le.refl a) R λd fl ld hf=>k d fl hf.1 hf.2 ld.u
  ·have e:=So h
   cases e
 obtain⟨oA,aeK,HA,Vi⟩:=Rz.out ((rP hG (ji W) 59).2 (X2 hK) gA)
 cases So Vi
 obtain⟨oC,aeL,HC,Vj⟩:=Rz.out ((rP hG (ji W) 60).2 (X3 hK) gC)
 cases So Vj
 rw[Yh]
 refine wpAny_execs_cons (XT _ _ _ R0 λd1 f1 e1 R1 u1=>?_)
 rw[e1]
 refine aep (HA (κ 0) d1 _ _ R1 (λd2 f2 l2 Jm=>⟨Jm.1,?_⟩) λy ev s' e=>nomatch e)
 obtain⟨e0,e1,e2,e3,e4⟩:=abM HD
 have k1:isLocal ((bB cX).kind (ai "scanner"))=ae:=by kernel_rfl
 have M:rh W.K 1048 550=ae:=by rw[hK];kernel_rfl
 have nR:dT (pT f)=ae:=by cases f<;>rfl
 refine wpAny_execs_cons (wpAny_Assign_Name (abN (κ:=κ 0) (rO hG 60) T e0 ⟨by decide,by decide⟩ rfl M (Wv hK hP ok (aL ht (bw rfl))) e1 e2 e3 e4 (by show(dT _&&d6 l)=ae;rw[nD];rfl) nR Jm.2 λx' d3 R3 u3=>rR (κ:=κ x') k1 (y:=.ak) rfl R3 λd4 l4 R4=>?_) rfl)
 have R4:Rl W (κ x') (zf (Aa (b_ (i_ h r))) (.v (.lst (j8 (rG (b_ (i_ h r))) l))) (.v (pT f))) d4:=R4
 exact HC (κ x') d4 _ _ R4 (λd5 f5 l5 yu=>Xw (κ:=κ x') (a:=⟨⟨⟨λ_=>0,default⟩,λ_=>0⟩,[],[],s⟩) (x:=x') (c:=c) yu (u1.trans (l2.u.trans (u3.trans (l4.u.trans l5.u))))) λy ev s' e=>nomatch e
end
local macro_rules | `(tactic| k_qdec) => `(tactic| decide +kernel)
theorem cw:PySem.Challenge.rw_im0049_01.Holds:=by
 refine holds_law ae3 λCO=>?_
 refine holds_open (q:=q) (loose:=loose) (Xt:=pb) (XP:=XL q []) (Yf:=Hook.obs H) (Ya:=Hook.val H) (YP:=Hook.says H) (N:=22100) Jh (Hook.of H) (Hook.keeps H) (λs e=>xl_of s (Bool.and_eq_true_iff.mp e).1) XL.keeps (by rfl) (by rfl) (by rfl) (λs e=>recFacts_of (Bool.and_eq_true_iff.mp e).2) (by rfl) CO (by kernel_rfl) ⟨rfl,rfl,rfl,rfl,rfl,by kernel_rfl⟩ ⟨[.list [.int 3,.int 1]],by kernel_rfl,by kernel_rfl⟩ ?hc
 intro w ade cu mg mb G Y fa o pm cd doc dV kV ho hd CB hD VQ hg args vals as VZ VO V2 Wf VP
 have KX:=kIn_of Y
 k_behind G ho hd CB hD VQ VZ VO V2 Wf VP cd
 rename_i X1 V1 GL1 TT B1 TE1 TW1 z4 z3 M1 NS z1 II hs1 aeD hL1 hr1 cdA aex sA L' Vg aeB l0 w1 w2 w3 w4 w5 w6 w7 w8 w9 w10 w11
 let Sf:Env:=envX "law" (bP q7) cu.heap.objs.size fa (.ref NS) []
 refine iK (Xy (W:=⟨pw,w,K w.params,q,looseW q loose,mg,mb⟩) rfl rfl (mean:=ExcName.means ade.heap) (c:={A₀:=callerA,base:=cu.heap,h₀:=cu.heap,outer:=[],L:=cu.heap.objs.size,qual:="law",scope:=bP q7,f:=fa,cd:=.ref NS,cl:=[]}) (A:=callerA.deeper Sf) ⟨w8,KX,topRead_of TT,Ez w8.stack,rfl⟩ rfl rfl TT rfl ⟨by show callerA.depth+1+14<1000;decide,by show callerA.units+3+8*14<9800;decide⟩ w10 (ad:=L') (vs:=Vg.toArray) (I:=II) rfl l0 w4 (by omega)) (λfl s' q=>?_) (λ_ _ e=>e.elim)
 obtain⟨m',F',hh,tt⟩:=q
 exact goodW_bool F' hg (raisesW_false (by wrow_none_raised)) (by wrow_post)
end Mine
theorem PySem.Challenge.cw_im0049_01_holds : PySem.Challenge.rw_im0049_01.Holds := by
  exact Mine.cw
