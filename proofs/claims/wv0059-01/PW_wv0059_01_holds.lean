import PyProof.Rows.All
import PyProof.ExcFactsAll.ValueError
import PyProof.ExcStrAll.ValueError
import PyProof.Rows.Catch
import PyProof.Rows.SumAny
import PyProof.Rows.SortShell
import PyProof.Rows.SortWalk
import Flt.RightOps
import Flt.RightMore
import Flt.Ops
import Flt.Calls
import KE.BytesMake
import KE.KCallOwn
import KE.KLam
import KE.KFromBytes
import KE.KPairComp
import KE.KxPercentT
import Wide.FinOn
import OpenK.AllK
import Wide.Txt2
import Wide.All
import PySem.Challenge.RW_wv0059_01
set_option Elab.async false
set_option maxRecDepth 100000
set_option linter.unusedVariables false
set_option tactic.hygienic false
open Option renaming some->aa,none->az,bind_eq_some_iff->bd,map_eq_some_iff->dT,bind_some->gF,none->jp,isSome_iff_exists->jP
open PySem.Challenge renaming pw_wv0059_01->mu
open PySem renaming wpAny_mono->ab,wpAny_bind->ae,wpAny_pure->aj,Shared->aq,World->av,sizeLine_eq->aw,Value->ay,wpAny->aC,starEach->aE,Addr->aF,Program->aH,model->aI,Params->aQ,Heap->aW,Around->aX,callEnvC->bf,mainGlobals->bm,sizeLine->bn,cellsFrom->bu,FuncData->bz,builtinLookup_eq_fast->bA,Keeps->bB,wpAny_of_eq->bD,eval->bJ,wpAny_holding->bL,compareOp->bP,keywordEach->bR,wpAny_ite_true->bT,wpAny_ite_false->bZ,binaryOp->cf,execs_cons->ci,wpAny_Call_Name_kw->cm,typeLookup_type->cz,wpAny_items_cons->cB,wpAny_items_nil->cF,swapsWith->cJ,partValue->cK,backToKw->cM,wpAny_Assign_Name->cN,foldedSetIterable->cO,letOwnedTupleGo->cS,OsState->cY,strValues->c8,attributeBase->db,builtinsNs->dh,wpAny_call_entry->dA,recursionLimit->dC,wpAny_assign_Name->dM,wpAny_Call_method->dN,clipAt->dQ,typeIs_str->dR,wpAny_seqItems->dY,isSubtype_type->dZ,wpAny_field->ed,Stmt->eh,wpAny_call->eo,wpAny_pyIter_tuple->et,bindArgs->ey,wpAny_standAt->eD,wpAny_newObj_type->eI,rawInt->eQ,Keyword->eW,backTo->fb,wpAny_updateSeq->fg,wpAny_specialOf->fh,call->ft,typeLookup->fu,cLine->fw,wpAny_callSpecial?_slot->fz,wpAny_Expr_any->fM,wpAny_truthy_bool->fO,slot_list_getitem->fP,wpAny_mkStr->ge,codeAny_builtin->gp,codeAny->gw,callWith->gI,wpAny_rule->gJ,closureFor->gK,call_meets->gL,holding->gU,IsPair->gX,wpAny_getItem_list_slice->g5,Flow->hF,treeTable->hG,getMethod->hZ,entryFor_of_tree->ib,PyData->iu,standAt->iv,bootBuiltins->ix,execs->iB,wpAny_loadPart'->iF,wpAny_execs_nil->iG,wpAny_storeName_local->iO,wpAny_allTrue_Or_cons->iP,compEnvC->iY,cStatics->iZ,ZipApart->i4,interactive->i6,letTemporaryGo->i8,codeAny_call_builtin->i9,seqIndex?->jd,DictEntry->je,plainId_quiet->ju,wpAny_Name->jA,wpAny_List->jB,PlainAttrs->jC,wpAny_isTrue_value->jD,wpAny_Return_some->jK,isSubtype->jR,wpAny_isInstance->jU,wpAny_letOwnedTupleGo_listiter->jW,wpAny_Slice->j5,wpAny_BinOp->j6,pushCells_keeps->ke,linesOf->km,typeOf->kz,NameKind->kD,wpAny_loadPart->kH,wpAny_attempt->lk,signature?_of->ll,rangeSize_one->lq,evalPart_none->lr,behindInMarks->lu,stripSame->lJ,compTests->lK,wpAny_list_append_plain->lN,wpAny_callSpecial?_none->lO,pyNext->lW,assign->lX,argBest->l0,BindsTo->l8,wpAny_nextOf_list_item->mf
open List renaming length_append->af,range->ag,length_map->ah,mem_singleton->ak,mem_cons->ao,mem_append->ar,mem_append_left->ax,getElem?_eq_getElem->aA,map_map->aB,lookup->aD,replicate->aG,append_assoc->aJ,mem_map->aK,mem_range->aL,mem_append_right->aM,getElem?_eq_some_iff->aT,length_cons->aU,map_congr_left->aV,length_eq_zero_iff->aY,getD_eq_getElem?_getD->aZ,getElem?_map->a7,length_replicate->a8,map_cons->ba,length_range->be,flatMap_cons->bh,map_append->bi,length->bj,size_toArray->bo,all_eq_true->bq,mem_of_getElem?->br,cons_append->bx,take_of_length_le->bF,length_drop->bH,append_nil->bK,length_nil->bQ,flatMap_append->bV,filter_eq_self->bW,flatMap_def->cn,replicate_succ->cq,flatten_cons->cu,range_succ->cy,eq_nil_of_length_eq_zero->cC,forIn_cons->cD,mem_flatMap->cT,getElem_range->cU,getLast?_eq_some_getLast->c7,foldl_append->dc,length_take->dm,getElem_mem->dn,mem_cons_self->dy,nil_append->dD,zip->dF,range'_append_1->dG,take_succ_eq_append_getElem->dH,length_pos_iff->dP,pairwise_cons->dU,mem_replicate->dW,lookup_append->dX,sum_cons->eb,drop_zero->eG,forall_mem_cons->eH,take_length->eJ,take_succ_cons->eN,flatten_append->eO,map->eV,mem_filter->eX,foldl_cons->eY,map_singleton->eZ,map_replicate->fa,range'->fc,reverse_cons->fi,drop_of_length_le->fj,drop_eq_nil_of_le->fq,not_mem_nil->fD,cons_ne_nil->fE,mem_cons_of_mem->fS,length_dropLast->fT,getLastD_concat->fU,length_flatMap->fY,take_left->gk,getLastD_eq_getLast?->gu,drop_eq_getElem_cons->gv,take_add_one->gz,getLast?_map->gA,getElem_map->gN,ext_getElem->gO,filter_cons_of_pos->gR,filter_cons_of_neg->gS,map_nil->gV,flatMap_singleton->gW,contains_iff_mem->g9,forIn_nil->ik,filterMap->io,length_take_le'->ir,length_take_le->iH,getD_cons_succ->iI,map_take->iK,all_cons->iL,zip_cons_cons->iU,zipWith->jg,getElem_drop->jh,flatMap_nil->jw,drop_length->jx,dropLast_concat_getLast->jI,getElem?_append_right->jQ,getLast?_eq_none_iff->j0,getLast?_eq_getElem?->j3,mem_of_elem_eq_true->kd,range_succ_eq_map->kr,take_append_drop->kR,length_filter_le->kS,getElem?_zipWith->kT,getElem?_toArray->kU,map_id->kW,getLast?_concat->kY,getElem?_mapIdx->kZ,findIdx_getElem->la,dropLast_concat->lb,getElem_of_mem->lF,getD_cons_zero->lG,filter_flatMap->lH,length_mapIdx->lU,zip_nil_left->mm,pairwise_map->mo,map_inj_left->mr,map_dropLast->ms
open Bool renaming true->ai,and_eq_true_iff->aP,false_eq_true->a9,and_eq_true->bI,false_ne_true->dz,eq_iff_iff->dE,and_false->iq,or_false->iM,not_true->iN,false_and->jN
open Exists renaming elim->al
open Option.some renaming inj->am,injEq->ka
open PySem.Heap renaming get?_push_size->au,get?_push_of_some->aO,lt_size->aR,get?_update_self->cr,size_push->cw,SameBut->cL,get?_update_other->df,size_update->gM,FlyingW->jf
open Nat renaming le_refl->aN,lt_of_lt_of_le->bg,beq->bN,eq_of_beq_eq_true->bO,lt_irrefl->bY,le_trans->ch,two_pow_pos->cj,zero_le->cx,le_of_ble_eq_true->cR,lt_of_le_of_lt->cX,ne_of_gt->cZ,mul->de,ble->dg,ne_of_lt->dj,pow_add->dk,lt_succ_self->dw,lt_or_ge->dI,mul_assoc->dJ,div_lt_iff_lt_mul->ew,mul_comm->eM,mul_div_mul_right->fI,mod_lt->fL,min_eq_left->fW,add->gd,le_of_eq->gh,mul_le_mul->gq,div->gB,lt_succ_of_lt->gG,lt_of_succ_lt->gH,sub_zero->gZ,sub_eq_zero_of_le->ic,le_div_iff_mul_le->ie,ble_eq_true_of_le->ig,le_succ->iy,add_mul->iz,mul_lt_mul_right->iA,pow->iD,shiftLeft->iR,not_lt->i7,add_sub_cancel->jb,blt->jl,le_add_right->jE,mul_pos->jF,not_lt_zero->jM,mul_eq->jS,add_eq->jT,shiftRight->jV,eq_of_mul_eq_mul_right->jZ,pow_lt_pow_iff_right->kj,sub->kE,mod->kF,min_zero->kJ,le_total->kK,le_of_lt->kL,pow_lt_pow_right->lB,not_succ_le_self->lD,mul_le_mul_right->lE,mul_lt_mul_left->lS,mul_div_cancel'->lT,not_le->l9,ble_eq->mc,beq_eq->me
open PySem.Str renaming ofString->aS,length->fJ,ext'->iw,join->jm
open PySem.Sre renaming forSearch->bk,Seen->cv,inSet->ec,Frame->iE
open PySem.World renaming withFollow->bv
open Pure renaming pure->bG
open Int renaming fmod_eq_emod_of_nonneg->bM,fdiv_eq_ediv_of_nonneg->bX,toNat_natCast->ca,natCast_nonneg->d9,toNat_of_nonneg->eS,toNat_le_toNat->fe,ofNat->ff,zero_add->fv,mul_assoc->fQ,mul_add->fV,natCast_add->fX,mul_zero->gi,add_zero->g4,add_assoc->iT,lt_trichotomy->jq,compare_eq_lt->jr,compare_eq_gt->js,toNat_sub_toNat_neg->ku,ofNat_le->kM,lt_or_le->kP,le_of_lt->kQ,neg_sub->ly,neg_add->lz
open PySem.W renaming hideAll_get->bS,of_hideAll->bU,emptyDict->cA,hideAll_none->dK,tabObj->ei,segRun_of->ez,piece_app->eC,instObj->fZ,lookIn->gm,findIn->iV,kla_obj->jc,methodCall_KW->jv,isNs_of_in->kG,method_fn->lL,nsIn->lV,typeIn->lY,byRow2->lZ
open PySem.Sem renaming wp_mono->cg,wp_bind'->di,wp->iX,wp_cmd_standAt->ja
open PySem.Unicode renaming isLineBreak->cG,isSpace->c9
open PySem.Heap.UpToSlots renaming of_keeps->cP
open PySem.PyData renaming eqv->da,depthAll->fR,eqvAll->gr,keyHash->g7,canLayAll0->lA
open PySem.StrLaws renaming strSub_toList->dq,lines_weight->fB,partsFrom->iQ,lsEnd->jL,glued_eq_join->j8,occBody->lQ,occ_eq->mi
open PySem.Value renaming type->du,none->iJ,ref->jo,bool->jJ
open PySem.Builtin.Str renaming strKind->dB,subAt->eR,occurrences->gj,tooLong->gx,partsBetween->jt,lineSpans->jG,occurrences->j7,glued->j9,strSliceIndices->kf
open Array renaming toList_inj->dO,getElem?_eq_getElem->eK,toList_append->lh,length_toList->lj,forIn_toList->lI
open PyProof.Rows renaming subscriptTail->dS,pickNums->i5,Below->j4
open PySem.Heap.SameBut renaming update->ef
open PySem.Builtin.Int renaming intBits->eu
open Prod renaming ext->eU
open PySem.Float64 renaming sgn->fA,cmpInt->ml
open PySem.Obj renaming mapSeq_push_plain->fF,mapSeq->fK,data_mapFields->mj
open PySem.Around renaming under_plainId->fG,frames_deeper->fH
open Classical renaming em->gy,byContradiction->jz
open LawfulBEq renaming eq_of_beq->gC
open PySem.Heap.IsSliceOf renaming new->gQ
open PySem.W.KFB renaming if_not->gY
open PySem.Manifest renaming signature?->g8,find?->lR
open UInt8 renaming ofNat->ia
open PySem.Builtin.SmallTypes renaming nextOf->ii
open ForIn renaming forIn->iC
open PySem.Builtin.Range renaming rangeSize->ji,small->jH
open PySem.Builtin.List renaming listSameRef->jk
open PySem.AutoFloatOps renaming truediv_1->jy,eq_0->jX
open PySem.AutoIntOps renaming truediv_2->jO
open PyProof renaming noPylong_small->jY
open Inhabited renaming default->kq
open LT renaming lt->ky
open PySem.Walks renaming tuple->kI
open ForInStep renaming yield->lc
open PySem.W.FB renaming slot_bytes_decode->lP
open PySem.W.WShape renaming hasItems->mh
open PySem PySem.W
namespace Mine
set_option compiler.extract_closed false
open Lean in
def q0q (t:String) (s:TSyntax `str):MacroM (TSyntax `tactic):=
 match (t.splitOn ";").find? (·.startsWith (s.getString ++"=")) with
 |none=>Macro.throwUnsupported
 |some b=>do
  let l ← ((b.splitOn "=").getD 1 "" |>.splitOn "|").mapM fun a=>do
   let as ← (a.splitOn " ").mapM fun x:String=>if x=="!" then `(by assumption) else if x=="_" then `(_) else if x.startsWith "?" then `(?_) else if x.startsWith "&" then `(by walk_at $(Syntax.mkStrLit (x.drop 1).toString)) else pure (mkIdent x.toName)
   let ts ← ((a.splitOn " ").filter (·.startsWith "?")).mapM fun x:String=>`(tactic| walk_at $(Syntax.mkStrLit (x.drop 1).toString))
   `(tacticSeq| refine $(Syntax.mkApp as.head! as.tail.toArray); $ts.toArray;*)
  `(tactic| first $[| $(l.toArray):tacticSeq]*)
def XQ:Lean.Syntax:=Lean.Unhygienic.run `(tacticSeq|kernel_rfl)
def XX:Lean.Syntax:=Lean.Unhygienic.run `(tacticSeq|with_unfolding_all rfl)
def XZ:Lean.Syntax:=Lean.Unhygienic.run `(tacticSeq|rfl)
def XJ:Lean.Syntax:=Lean.Unhygienic.run `(tacticSeq|exact .inl rfl)
def X1:Lean.Syntax:=Lean.Unhygienic.run `(tacticSeq|intro _;rfl)
def X2:Lean.Syntax:=Lean.Unhygienic.run `(tacticSeq|intro _ _;rfl)
noncomputable section
section
theorem nE {α:Type} {a:α} {C:Prop} (h:az=aa a):C:=nomatch h
theorem tD {α:Type} {a:α} {C:Prop} (h:aa a=az):C:=nomatch h
theorem oJ {C:Prop} (h:false=ai):C:=nomatch h
theorem ro {C:Prop} (h:ai=false):C:=nomatch h
namespace LA
inductive T where
 |v (i:Nat)
 |c (k:Nat)
 |o (f:Nat) (x y:T)
noncomputable abbrev T.a (x y:T):T:=.o 0 x y
noncomputable abbrev T.s (x y:T):T:=.o 1 x y
noncomputable abbrev T.m (k:Nat) (x:T):T:=.o 2 (.c k) x
noncomputable abbrev T.r (x:T) (k:Nat):T:=.o 2 x (.c k)
noncomputable abbrev T.d (x:T) (k:Nat):T:=.o 3 x (.c k)
noncomputable abbrev T.e (x:T) (k:Nat):T:=.o 4 x (.c k)
noncomputable abbrev T.n (x y:T):T:=.o 5 x y
noncomputable abbrev T.x (x y:T):T:=.o 6 x y
noncomputable abbrev T.g (x:T):T:=.o 7 x x
noncomputable abbrev T.k (x:T):T:=.o 8 x x
noncomputable abbrev T.t (x:T):T:=.o 9 x x
inductive P where
 |r (f:Nat) (x y:T)
 |a (p q:P)
 |o (p q:P)
 |n (p:P)
 |i (p q:P)
noncomputable abbrev P.l (x y:T):P:=.r 0 x y
noncomputable abbrev P.b (x y:T):P:=.r 1 x y
noncomputable abbrev P.e (x y:T):P:=.r 2 x y
noncomputable abbrev P.L (x y:T):P:=.r 3 x y
noncomputable abbrev P.B (x y:T):P:=.r 4 x y
noncomputable abbrev P.E (x y:T):P:=.r 5 x y
noncomputable abbrev gt {α:Type} [Inhabited α]:List α->Nat->α
 |[],_=>kq
 |x::_,0=>x
 |_::l,i+1=>gt l i
noncomputable abbrev W (f:Nat) (x y:Nat×Int):Nat×Int:=match f with
 |0=>(x.1+y.1,x.2+y.2)
 |1=>(x.1 - y.1,x.2 - y.2)
 |2=>(x.1*y.1,x.2*y.2)
 |3=>(x.1/y.1,x.2/y.2)
 |4=>(x.1 % y.1,x.2 % y.2)
 |5=>(min x.1 y.1,min x.2 y.2)
 |6=>(max x.1 y.1,max x.2 y.2)
 |7=>(0,-x.2)
 |8=>(0,(x.1:Int))
 |_=>(x.2.toNat,0)
noncomputable abbrev D (ρ:List Nat) (σ:List Int):T->Nat×Int
 |.v i=>(gt ρ i,gt σ i)
 |.c k=>(k,ff k)
 |.o f x y=>W f (D ρ σ x) (D ρ σ y)
abbrev dp (ρ:List Nat) (σ:List Int):P->Prop
 |.r f x y=>match f with
  |0=>(D ρ σ x).1<=(D ρ σ y).1
  |1=>(D ρ σ x).1<(D ρ σ y).1
  |2=>(D ρ σ x).1=(D ρ σ y).1
  |3=>(D ρ σ x).2<=(D ρ σ y).2
  |4=>(D ρ σ x).2<(D ρ σ y).2
  |_=>(D ρ σ x).2=(D ρ σ y).2
 |.a p q=>dp ρ σ p/\dp ρ σ q
 |.o p q=>dp ρ σ p\/dp ρ σ q
 |.n p=> ¬dp ρ σ p
 |.i p q=>dp ρ σ p->dp ρ σ q
noncomputable def same:T->T->Bool
 |.v i,.v j=>bN i j
 |.c i,.c j=>bN i j
 |.o f x y,.o g u w=>bN f g&&(same x u&&same y w)
 |_,_=>false
theorem same_eq: ∀{x y:T},same x y=ai->x=y
 |.v _,.v _,h=>congrArg T.v (bO h)
 |.c _,.c _,h=>congrArg T.c (bO h)
 |.o f x y,.o g u w,h=>by
  have h:=aP.mp h
  have q:=aP.mp h.2
  rw [bO h.1,same_eq q.1,same_eq q.2]
abbrev K:=Bool×T
def sk (k j:K):Bool:=cond k.1 (cond j.1 (same k.2 j.2) false) (cond j.1 false (same k.2 j.2))
theorem sk_eq: ∀{k j:K},sk k j=ai->k=j
 |(ai,_),(ai,_),h=>congrArg _ (same_eq h)
 |(false,_),(false,_),h=>congrArg _ (same_eq h)
abbrev M:=List (Nat×Nat×K)
noncomputable abbrev L:=Nat×Nat×M
section
variable (ρ:List Nat) (σ:List Int)
def kv (k:K):Int:=cond k.1 (D ρ σ k.2).2 ((D ρ σ k.2).1:Int)
noncomputable def dot:M->Int
 |[]=>0
 |q::p=>((q.1:Int) - (q.2.1:Int))*kv ρ σ q.2.2+dot p
def ev (l:L):Int:=(l.1:Int) - (l.2.1:Int)+dot ρ σ l.2.2
end
noncomputable def put (a b:Nat) (k:K) (p:M):M:=cond (bN a b) p ((kE a b,kE b a,k)::p)
noncomputable def ins (a b:Nat) (k:K):M->M
 |[]=>put a b k []
 |q::p=>cond (sk k q.2.2) (put (gd a q.1) (gd b q.2.1) k p) (q::ins a b k p)
noncomputable def addM:M->M->M
 |[],q=>q
 |e::p,q=>ins e.1 e.2.1 e.2.2 (addM p q)
noncomputable def mulM (k:Nat):M->M
 |[]=>[]
 |e::p=>(de k e.1,de k e.2.1,e.2.2)::mulM k p
noncomputable def negM:M->M
 |[]=>[]
 |e::p=>(e.2.1,e.1,e.2.2)::negM p
def add (p q:L):L:=(gd p.1 q.1,gd p.2.1 q.2.1,addM p.2.2 q.2.2)
def mul (k:Nat) (p:L):L:=(de k p.1,de k p.2.1,mulM k p.2.2)
def neg (p:L):L:=(p.2.1,p.1,negM p.2.2)
noncomputable def at_ (k:K):L:=(0,0,[(1,0,k)])
variable {ρ:List Nat} {σ:List Int}
theorem nrm (a b:Nat):((a - b:Nat):Int) - ((b - a:Nat):Int)=(a:Int) - (b:Int):=by
 have:=ku ((a:Int) - b)
 rwa [ly,Int.toNat_sub,Int.toNat_sub] at this
theorem aac (a b c d:Int):a+b+(c+d)=a+c+(b+d):=by rw [iT,iT,Int.add_left_comm b]
theorem asc (a b c d:Int):a+c - (b+d)=a - b+(c - d):=(congrArg (a+c+ ·) lz).trans (aac a c (-b) (-d))
theorem dot_put (a b:Nat) (k:K) (p:M):dot ρ σ (put a b k p)=((a:Int) - (b:Int))*kv ρ σ k+dot ρ σ p:=by
 unfold put
 cases q:bN a b with
 |true=>rw [bO q,Int.sub_self,Int.zero_mul,fv];rfl
 |false=>rw [<-nrm];rfl
theorem dot_ins (a b:Nat) (k:K): ∀p:M,dot ρ σ (ins a b k p)=((a:Int) - (b:Int))*kv ρ σ k+dot ρ σ p
 |[]=>dot_put ..
 |q::p=>by
  unfold ins
  cases e:sk k q.2.2 with
  |false=>show _+_=_;rw [dot_ins a b k p,dot,Int.add_left_comm]
  |true=>
   rw [cond_true,dot_put,dot,<-sk_eq e,<-iT,<-Int.add_mul,jT,jT,fX,fX,asc]
theorem dot_add: ∀p q:M,dot ρ σ (addM p q)=dot ρ σ p+dot ρ σ q
 |[],q=>(fv _).symm
 |e::p,q=>by rw [addM,dot_ins,dot_add p q,dot,iT]
theorem mulz (k a b:Nat):((de k a:Nat):Int) - ((de k b:Nat):Int)=(k:Int)*((a:Int) - (b:Int)):=by
 rw [Int.mul_sub];rfl
theorem dot_mul (k:Nat): ∀p:M,dot ρ σ (mulM k p)=(k:Int)*dot ρ σ p
 |[]=>(gi (k:Int)).symm
 |e::p=>by rw [mulM,dot,dot_mul k p,dot,fV,<-fQ,mulz]
theorem dot_neg: ∀p:M,dot ρ σ (negM p)= -dot ρ σ p
 |[]=>rfl
 |e::p=>by rw [negM,dot,dot_neg p,dot,lz,<-Int.neg_mul,ly]
theorem ev_add (p q:L):ev ρ σ (add p q)=ev ρ σ p+ev ρ σ q:=by
 show ((p.1+q.1:Nat):Int) - ((p.2.1+q.2.1:Nat):Int)+dot ρ σ (addM _ _)=((_:Int) - _+_)+(_ - _+_)
 rw [dot_add,fX,fX,asc];exact aac ..
theorem ev_mul (k:Nat) (p:L):ev ρ σ (mul k p)=(k:Int)*ev ρ σ p:=by
 show _ - _+dot ρ σ (mulM _ _)=(k:Int)*(_+_)
 rw [dot_mul,fV,<-mulz];rfl
theorem ev_neg (p:L):ev ρ σ (neg p)= -ev ρ σ p:=by
 show (p.2.1:Int) - (p.1:Int)+dot ρ σ (negM _)= -((p.1:Int) - (p.2.1:Int)+_)
 rw [dot_neg,lz,ly]
theorem ev_at (k:K):ev ρ σ (at_ k)=kv ρ σ k:=by
 show (0:Int)+((1:Int)*kv ρ σ k+0)=_
 rw [Int.one_mul,g4,fv]
def lo (b:Bool) (f:Nat) (x y:T) (p q r:L):L:=match f with
 |0=>add p q
 |1=>cond b (add p (neg q)) (at_ (b,.o 1 x y))
 |2=>match x with
  |.c k=>mul k q
  |.v i=>match y with
   |.c k=>mul k p
   |.v j=>at_ (b,.o 2 (.v i) (.v j))
   |.o g u v=>at_ (b,.o 2 (.v i) (.o g u v))
  |.o h w z=>match y with
   |.c k=>mul k p
   |.v j=>at_ (b,.o 2 (.o h w z) (.v j))
   |.o g u v=>at_ (b,.o 2 (.o h w z) (.o g u v))
 |3=>at_ (b,.o 3 x y)
 |4=>match y with
  |.c k=>add p (neg (mul k (at_ (b,.o 3 x y))))
  |.v i=>at_ (b,.o 4 x (.v i))
  |.o g u v=>at_ (b,.o 4 x (.o g u v))
 |5=>at_ (b,.o 5 x y)
 |6=>at_ (b,.o 6 x y)
 |7=>cond b (neg p) (at_ (b,.o 7 x y))
 |8=>cond b r (at_ (b,.o 8 x y))
 |n+9=>at_ (b,.o (n+9) x y)
theorem lo_ev {b:Bool} {x y:T} {p q r:L} (hp:ev ρ σ p=kv ρ σ (b,x)) (hq:ev ρ σ q=kv ρ σ (b,y)) (hr:ev ρ σ r=kv ρ σ (false,x)): ∀f,ev ρ σ (lo b f x y p q r)=kv ρ σ (b,.o f x y)
 |0=>by rw [lo,ev_add,hp,hq];cases b<;>rfl
 |1=>match b with
  |false=>ev_at _
  |true=>by rw [lo,cond_true,ev_add,ev_neg,hp,hq];rfl
 |2=>by
  have k1 (k) (h:D ρ σ y=(k,ff k)):ev ρ σ (mul k p)=kv ρ σ (b,.o 2 x y):=by
   rw [ev_mul,hp,Int.mul_comm];show _=cond b ((D ρ σ x).2*(D ρ σ y).2) (((D ρ σ x).1*(D ρ σ y).1:Nat):Int);rw [h];cases b<;>rfl
  cases x with
  |c k=>show ev ρ σ (mul k q)=_;rw [ev_mul,hq];cases b<;>rfl
  |v i=>cases y with
   |c k=>exact k1 k rfl
   |v j=>exact ev_at _
   |o g u v=>exact ev_at _
  |o h w z=>cases y with
   |c k=>exact k1 k rfl
   |v j=>exact ev_at _
   |o g u v=>exact ev_at _
 |3=>ev_at _
 |4=>match y with
  |.c k=>by
   show ev ρ σ (add p _)=_
   rw [ev_add,ev_neg,ev_mul,hp,ev_at]
   have:=Int.emod_def (kv ρ σ (b,x)) (ff k)
   cases b<;>exact this.symm
  |.v _=>ev_at _
  |.o .. =>ev_at _
 |5=>ev_at _
 |6=>ev_at _
 |7=>match b with
  |false=>ev_at _
  |true=>by rw [lo,cond_true,ev_neg,hp];rfl
 |8=>match b with
  |false=>ev_at _
  |true=>hr
 |n+9=>ev_at _
noncomputable def lin:T->Bool->L
 |.c k,_=>(k,0,[])
 |.v i,b=>at_ (b,.v i)
 |.o f x y,b=>lo b f x y (lin x b) (lin y b) (lin x false)
theorem lin_ev: ∀(t:T) (b:Bool),ev ρ σ (lin t b)=kv ρ σ (b,t)
 |.c k,b=>by cases b<;>exact (g4 _).trans (Int.sub_zero _)
 |.v i,b=>ev_at _
 |.o f x y,b=>lo_ev (lin_ev x b) (lin_ev y b) (lin_ev x false) f
abbrev R:=Bool×L
def Ok (ρ:List Nat) (σ:List Int) (r:R):Prop:=cond r.1 (ev ρ σ r.2=0) (0<=ev ρ σ r.2)
def Oks (ρ:List Nat) (σ:List Int) (rs:List R):Prop:= ∀r∈rs,Ok ρ σ r
abbrev Dn:=List (List R)
def Has (ρ:List Nat) (σ:List Int) (A:Dn):Prop:= ∃b∈A,Oks ρ σ b
def le (b:Bool) (x y:T) (k:Nat):R:=(false,add (lin y b) (neg (add (lin x b) (k,0,[]))))
def eq (b:Bool) (x y:T):R:=(ai,add (lin y b) (neg (lin x b)))
theorem le_ok {b:Bool} {x y:T} {k:Nat} (h:kv ρ σ (b,x)+k<=kv ρ σ (b,y)):Ok ρ σ (le b x y k):=by
 show 0<=ev ρ σ (add _ (neg (add _ _)))
 rw [ev_add,ev_neg,ev_add,lin_ev,lin_ev,show ev ρ σ (k,0,[])=k from g4 _]
 exact Int.sub_nonneg_of_le h
theorem eq_ok {b:Bool} {x y:T} (h:kv ρ σ (b,x)=kv ρ σ (b,y)):Ok ρ σ (eq b x y):=by
 show ev ρ σ (add _ _)=_
 rw [ev_add,ev_neg,lin_ev,lin_ev,h]
 exact Int.add_right_neg _
theorem nil_ok:Oks ρ σ []:=λz h=>nomatch h
theorem cons_ok {r:R} {rs:List R} (h:Ok ρ σ r) (q:Oks ρ σ rs):Oks ρ σ (r::rs):=λc hc=>(ao.mp hc).elim (λe=>e▸h) (q c)
theorem app_ok {a b:List R} (h:Oks ρ σ a) (q:Oks ρ σ b):Oks ρ σ (a++b):=λc hc=>(ar.mp hc).elim (h c) (q c)
theorem has1 {a:List R} (h:Oks ρ σ a):Has ρ σ [a]:=⟨a,dy,h⟩
theorem has2 {p q:Prop} {a b:List R} (h:p\/q) (ha:p->Oks ρ σ a) (hb:q->Oks ρ σ b):Has ρ σ [a,b]:=h.elim (λh=>⟨a,dy,ha h⟩) λh=>⟨b,fS _ dy,hb h⟩
theorem nat1 {a b:Nat} (h:a<b):(a:Int)+1<=b:=kM.mpr h
theorem int0 {a b:Int} (h:a<=b):a+0<=b:=(g4 a).symm▸h
theorem nat0 {a b:Nat} (h:a<=b):(a:Int)+0<=b:=int0 (kM.mpr h)
theorem sub1 {a b:Nat} (h:b<=a):((a - b+b:Nat):Int)=a:=congrArg ff (Nat.sub_add_cancel h)
theorem sub0 {a b:Nat} (h:a<b):((a - b:Nat):Int)=(0:Nat):=congrArg ff (ic (kL h))
def fact (b:Bool) (f:Nat) (x y:T):Dn:=match f with
 |0=>[[]]
 |1=>cond b [[]] [[le false y x 0,eq false (.a (.s x y) y) x],[le false x y 1,eq false (.s x y) (.c 0)]]
 |2=>[[]]
 |3=>match y with
  |.c 0=>[[]]
  |.c (k+1)=>[[le b (.m (k+1) (.d x (k+1))) x 0,le b x (.a (.m (k+1) (.d x (k+1))) (.c (k+1))) 1]]
  |.v _=>[[]]
  |.o .. =>[[]]
 |4=>[[]]
 |5=>[[le b x y 0,eq b (.n x y) x],[le b y x 1,eq b (.n x y) y]]
 |6=>[[le b x y 0,eq b (.x x y) y],[le b y x 1,eq b (.x x y) x]]
 |7=>[[]]
 |8=>[[]]
 |9=>cond b [[]] [[le ai (.c 0) x 0,eq ai (.k (.o 9 x y)) x],[le ai x (.c 0) 1,eq false (.o 9 x y) (.c 0)]]
 |_+10=>[[]]
theorem ok2 {a b:R} (h:Ok ρ σ a) (q:Ok ρ σ b):Oks ρ σ [a,b]:=cons_ok h (cons_ok q nil_ok)
theorem fact_ok (b:Bool) (x y:T): ∀f,Has ρ σ (fact b f x y)
 |0=>has1 nil_ok
 |1=>match b with
  |true=>has1 nil_ok
  |false=>has2 (dI (D ρ σ x).1 (D ρ σ y).1).symm (λh=>ok2 (le_ok (nat0 h)) (eq_ok (sub1 h))) λh=>ok2 (le_ok (nat1 h)) (eq_ok (sub0 h))
 |2=>has1 nil_ok
 |3=>match y with
  |.c 0=>has1 nil_ok
  |.c (k+1)=>
   have e:kv ρ σ (b,.m (k+1) (.d x (k+1)))=((k+1:Nat):Int)*(kv ρ σ (b,x)/((k+1:Nat):Int)):=by cases b<;>rfl
   has1 (ok2 (le_ok (e.symm▸int0 (Int.mul_ediv_self_le (Int.ofNat_ne_zero.mpr (Nat.succ_ne_zero k))))) (le_ok ((show kv ρ σ (b,.a (.m (k+1) (.d x (k+1))) (.c (k+1)))=kv ρ σ (b,.m (k+1) (.d x (k+1)))+((k+1:Nat):Int) by cases b<;>rfl).trans (congrArg (· +_) e)▸Int.lt_mul_ediv_self_add (Int.natCast_pos.mpr (Nat.succ_pos k)))))
  |.v _=>has1 nil_ok
  |.o .. =>has1 nil_ok
 |4=>has1 nil_ok
 |5=>
  have e:kv ρ σ (b,.n x y)=min (kv ρ σ (b,x)) (kv ρ σ (b,y)):=match b with
   |true=>rfl
   |false=>Lean.Omega.Int.ofNat_min _ _
  has2 (kP (kv ρ σ (b,y)) (kv ρ σ (b,x))).symm (λh=>ok2 (le_ok (int0 h)) (eq_ok (e.trans (Int.min_eq_left h)))) λh=>ok2 (le_ok h) (eq_ok (e.trans (Int.min_eq_right (kQ h))))
 |6=>
  have e:kv ρ σ (b,.x x y)=max (kv ρ σ (b,x)) (kv ρ σ (b,y)):=match b with
   |true=>rfl
   |false=>Lean.Omega.Int.ofNat_max _ _
  has2 (kP (kv ρ σ (b,y)) (kv ρ σ (b,x))).symm (λh=>ok2 (le_ok (int0 h)) (eq_ok (e.trans (Int.max_eq_right h)))) λh=>ok2 (le_ok h) (eq_ok (e.trans (Int.max_eq_left (kQ h))))
 |7=>has1 nil_ok
 |8=>has1 nil_ok
 |9=>match b with
  |true=>has1 nil_ok
  |false=>has2 (kP (D ρ σ x).2 0).symm (λh=>ok2 (le_ok (int0 h)) (eq_ok (eS h))) λh=>ok2 (le_ok h) (eq_ok (congrArg ff (Int.toNat_of_nonpos (kQ h))))
 |_+10=>has1 nil_ok
def fk (k:K):Dn:=match k with
 |(b,.o f x y)=>fact b f x y
 |(_,.v _)=>[[]]
 |(_,.c _)=>[[]]
theorem fk_ok: ∀k:K,Has ρ σ (fk k)
 |(b,.o f x y)=>fact_ok b x y f
 |(_,.v _)=>has1 nil_ok
 |(_,.c _)=>has1 nil_ok
def ps (k:K) (rs:List L):List L:=cond k.1 rs (at_ k::rs)
theorem ps_ok {rs:List L} (h: ∀r∈rs,0<=ev ρ σ r): ∀(k:K),∀r∈ps k rs,0<=ev ρ σ r
 |(ai,_)=>h
 |(false,_)=>λr hr=>(ao.mp hr).elim (λe=>by rw [e,ev_at];exact d9 _) (h r)
noncomputable def conj (A B:Dn):Dn:=A.flatMap λa=>B.map (a++ ·)
theorem conj_ok {A B:Dn} (h:Has ρ σ A) (q:Has ρ σ B):Has ρ σ (conj A B):=
 let ⟨a,ha,h⟩:=h;let ⟨b,hb,q⟩:=q;⟨a++b,cT.mpr ⟨a,ha,aK.mpr ⟨b,hb,rfl⟩⟩,app_ok h q⟩
theorem or_l {A B:Dn} (h:Has ρ σ A):Has ρ σ (A++B):=let ⟨a,ha,h⟩:=h;⟨a,ax _ ha,h⟩
theorem or_r {A B:Dn} (h:Has ρ σ B):Has ρ σ (A++B):=let ⟨a,ha,h⟩:=h;⟨a,aM _ ha,h⟩
def nr (s:Bool) (f:Nat) (x y:T):Dn:=match f with
 |0=>cond s [[le false x y 0]] [[le false y x 1]]
 |1=>cond s [[le false x y 1]] [[le false y x 0]]
 |2=>cond s [[eq false x y]] [[le false x y 1],[le false y x 1]]
 |3=>cond s [[le ai x y 0]] [[le ai y x 1]]
 |4=>cond s [[le ai x y 1]] [[le ai y x 0]]
 |_=>cond s [[eq ai x y]] [[le ai x y 1],[le ai y x 1]]
noncomputable def nf:P->Bool->Dn
 |.r f x y,s=>nr s f x y
 |.a p q,s=>cond s (conj (nf p s) (nf q s)) (nf p s++nf q s)
 |.o p q,s=>cond s (nf p s++nf q s) (conj (nf p s) (nf q s))
 |.n p,s=>nf p (!s)
 |.i p q,s=>cond s (nf p (!s)++nf q s) (conj (nf p (!s)) (nf q s))
theorem on {r:R} (h:Ok ρ σ r):Oks ρ σ [r]:=cons_ok h nil_ok
theorem nr_ok (x y:T): ∀f,(dp ρ σ (.r f x y)->Has ρ σ (nr ai f x y))/\(¬dp ρ σ (.r f x y)->Has ρ σ (nr false f x y))
 |0=>⟨λh=>has1 (on (le_ok (nat0 h))),λh=>has1 (on (le_ok (nat1 (Nat.lt_of_not_le h))))⟩
 |1=>⟨λh=>has1 (on (le_ok (nat1 h))),λh=>has1 (on (le_ok (nat0 (Nat.le_of_not_lt h))))⟩
 |2=>⟨λh=>has1 (on (eq_ok (congrArg ff h))),λh=>has2 (Nat.lt_or_gt_of_ne h) (λh=>on (le_ok (nat1 h))) λh=>on (le_ok (nat1 h))⟩
 |3=>⟨λh=>has1 (on (le_ok (int0 h))),λh=>has1 (on (le_ok (Int.lt_of_not_ge h)))⟩
 |4=>⟨λh=>has1 (on (le_ok h)),λh=>has1 (on (le_ok (int0 (Int.le_of_not_gt h))))⟩
 |_+5=>⟨λh=>has1 (on (eq_ok h)),λh=>has2 (Int.lt_or_gt_of_ne h) (λh=>on (le_ok h)) λh=>on (le_ok h)⟩
theorem nf_ok: ∀p:P,(dp ρ σ p->Has ρ σ (nf p ai))/\(¬dp ρ σ p->Has ρ σ (nf p false))
 |.r f x y=>nr_ok x y f
 |.a p q=>⟨λh=>conj_ok ((nf_ok p).1 h.1) ((nf_ok q).1 h.2),λh=>(gy (dp ρ σ p)).elim (λu=>or_r ((nf_ok q).2 λw=>h ⟨u,w⟩)) λu=>or_l ((nf_ok p).2 u)⟩
 |.o p q=>⟨λh=>h.elim (λu=>or_l ((nf_ok p).1 u)) λu=>or_r ((nf_ok q).1 u),λh=>conj_ok ((nf_ok p).2 λu=>h (.inl u)) ((nf_ok q).2 λu=>h (.inr u))⟩
 |.n p=>⟨λh=>(nf_ok p).2 h,λh=>(nf_ok p).1 (Classical.not_not.mp h)⟩
 |.i p q=>⟨λh=>(gy (dp ρ σ p)).elim (λu=>or_r ((nf_ok q).1 (h u))) λu=>or_l ((nf_ok p).2 u),λh=>conj_ok ((nf_ok p).1 (jz λu=>h λw=>absurd w u)) ((nf_ok q).2 λw=>h λz=>w)⟩
noncomputable def gcds:M->Nat
 |[]=>0
 |a::l=>Nat.gcd (gd a.1 a.2.1) (gcds l)
noncomputable def nrmd:M->Bool
 |[]=>ai
 |a::l=>cond (bN (de a.1 a.2.1) 0) (nrmd l) false
noncomputable def quo (g:Nat):M->M
 |[]=>[]
 |a::l=>(gB a.1 g,gB a.2.1 g,a.2.2)::quo g l
theorem dot_quo {g:Nat}: ∀{p:M},g∣gcds p->nrmd p=ai->(g:Int)*dot ρ σ (quo g p)=dot ρ σ p
 |[],_,_=>gi _
 |a::l,h,q=>by
  unfold nrmd at q
  cases e:bN (de a.1 a.2.1) 0 with
  |false=>rw [e] at q;exact oJ q
  |true=>
   rw [e] at q
   have h1:=Nat.dvd_trans h (Nat.gcd_dvd_left ..)
   have h2:g∣a.1/\g∣a.2.1:=by
    rcases Nat.mul_eq_zero.mp (bO e) with z|z
    ·rw [jT,z,Nat.zero_add] at h1;exact ⟨z▸Nat.dvd_zero g,h1⟩
    ·rw [jT,z,Nat.add_zero] at h1;exact ⟨h1,z▸Nat.dvd_zero g⟩
   rw [quo,dot,dot,fV,dot_quo (Nat.dvd_trans h (Nat.gcd_dvd_right ..)) q,<-fQ,<-mulz,show de g (gB a.1 g)=a.1 from lT h2.1,show de g (gB a.2.1 g)=a.2.1 from lT h2.2]
def fl (p:L):Int:=((p.1:Int) - (p.2.1:Int))/(gcds p.2.2:Int)
def tight (p:L):L:=cond (dg (gcds p.2.2) 1) p (cond (nrmd p.2.2) ((fl p).toNat,(-fl p).toNat,quo (gcds p.2.2) p.2.2) p)
theorem tight_ok {p:L} (h:0<=ev ρ σ p):0<=ev ρ σ (tight p):=by
 unfold tight
 cases e:dg (gcds p.2.2) 1 with
 |true=>exact h
 |false=>
  cases e2:nrmd p.2.2 with
  |false=>exact h
  |true=>
   have hg:(gcds p.2.2:Int)≠0:=λq=>oJ ((Int.ofNat_inj.mp q▸e:dg 0 1=false).symm)
   show 0<=((fl p).toNat:Int) - ((-fl p).toNat:Int)+dot ρ σ (quo _ p.2.2)
   rw [ku,fl,<-Int.add_mul_ediv_left _ _ hg,dot_quo (Nat.dvd_refl _) e2]
   exact Int.ediv_nonneg h (d9 _)
noncomputable def coef (k:K):M->Nat×Nat
 |[]=>(0,0)
 |q::p=>cond (sk k q.2.2) (q.1,q.2.1) (coef k p)
def Pos (ρ:List Nat) (σ:List Int) (rs:List L):Prop:= ∀r∈rs,0<=ev ρ σ r
def comb (k:K) (p q:L):L:=tight (add (mul (coef k q.2.2).2 p) (mul (coef k p.2.2).1 q))
noncomputable def triv (p:L):Bool:=match p.2.2 with
 |[]=>jl p.1 p.2.1
 |_=>ai
noncomputable def nz (n:Nat):Bool:=cond (bN n 0) false ai
noncomputable def elim (k:K) (rs:List L):List L:=rs.filter (λr=>bN (gd (coef k r.2.2).1 (coef k r.2.2).2) 0)++
 ((rs.filter λr=>nz (coef k r.2.2).1).flatMap λp=>(rs.filter λr=>nz (coef k r.2.2).2).map (comb k p)).filter triv
theorem elim_ok {k:K} {rs:List L} (h:Pos ρ σ rs):Pos ρ σ (elim k rs):=λr hr=>by
 rcases ar.mp hr with hr|hr
 ·exact h r (eX.mp hr).1
 ·obtain ⟨p,hp,hr⟩:=cT.mp (eX.mp hr).1
  obtain ⟨q,hq,e⟩:=aK.mp hr
  rw [<-e]
  refine tight_ok ?_
  rw [ev_add,ev_mul,ev_mul]
  exact Int.add_nonneg (Int.mul_nonneg (d9 _) (h p (eX.mp hp).1)) (Int.mul_nonneg (d9 _) (h q (eX.mp hq).1))
noncomputable def bad (p:L):Bool:=match p.2.2 with
 |[]=>jl p.1 p.2.1
 |_=>false
theorem bad_no {p:L} (h:bad p=ai) (q:0<=ev ρ σ p):False:=by
 unfold bad at h
 split at h
 ·next e=>rw [ev,e,dot,g4] at q;exact bY _ (bg (cR h) (kM.mp (Int.le_of_sub_nonneg q)))
 ·exact oJ h
noncomputable def fst:List L->Option K
 |[]=>az
 |r::l=>match r.2.2 with
  |[]=>fst l
  |q::_=>aa q.2.2
noncomputable def fm:Nat->List L->Bool
 |0,_=>false
 |n+1,rs=>cond (rs.any bad) ai (match fst rs with
  |none=>false
  |some k=>fm n (elim k rs))
theorem fm_no: ∀{n:Nat} {rs:List L},fm n rs=ai->Pos ρ σ rs->False
 |n+1,rs,h,q=>by
  unfold fm at h
  cases e:rs.any bad with
  |true=>
   obtain ⟨r,hr,h⟩:=List.any_eq_true.mp e
   exact bad_no h (q r hr)
  |false=>
   rw [e,cond_false] at h
   split at h
   ·exact oJ h
   ·exact fm_no h (elim_ok q)
def sb (e:L) (k:K) (r:L):L:=add (add (mul (coef k r.2.2).1 e) (mul (coef k r.2.2).2 (neg e))) r
theorem sb_ev {e:L} {k:K} {r:L} (h:ev ρ σ e=0):ev ρ σ (sb e k r)=ev ρ σ r:=by
 rw [sb,ev_add,ev_add,ev_mul,ev_mul,ev_neg,h,Int.neg_zero,gi,gi,fv,fv]
noncomputable def piv (e:L):M->Option (L×K)
 |[]=>az
 |q::p=>cond (bN q.1 1) (aa (neg e,q.2.2)) (cond (bN q.2.1 1) (aa (e,q.2.2)) (piv e p))
theorem piv_ok {e:L} (h:ev ρ σ e=0): ∀{p:M} {q:L×K},piv e p=aa q->ev ρ σ q.1=0
 |a::p,q,k=>by
  unfold piv at k
  cases e1:bN a.1 1 with
  |true=>rw [e1] at k;cases k;exact (ev_neg e).trans (by rw [h];rfl)
  |false=>
   rw [e1] at k
   cases e2:bN a.2.1 1 with
   |true=>rw [e2] at k;cases k;exact h
   |false=>rw [e2] at k;exact piv_ok h k
noncomputable def gs:Nat->List L->List L->Bool
 |0,_,_=>false
 |n+1,[],rs=>fm n (rs.map tight)
 |n+1,e::es,rs=>match piv e e.2.2 with
  |some q=>gs n (es.map (sb q.1 q.2)) (rs.map (sb q.1 q.2))
  |none=>gs n es (e::neg e::rs)
theorem gs_no: ∀{n:Nat} {es rs:List L},gs n es rs=ai->(∀e∈es,ev ρ σ e=0)->Pos ρ σ rs->False
 |n+1,[],rs,h,_,q=>fm_no h λr hr=>by
  obtain ⟨u,hu,rfl⟩:=aK.mp hr
  exact tight_ok (q u hu)
 |n+1,e::es,rs,h,k,q=>by
  have he:=k e dy
  unfold gs at h
  split at h
  ·next e1=>
   have he:=piv_ok he e1
   refine gs_no h (λr hr=> ?_) λr hr=> ?_
   ·obtain ⟨u,hu,rfl⟩:=aK.mp hr
    rw [sb_ev he,k u (fS _ hu)]
   ·obtain ⟨u,hu,rfl⟩:=aK.mp hr
    rw [sb_ev he];exact q u hu
  ·refine gs_no h (λr hr=>k r (fS _ hr)) λr hr=> ?_
   rcases ao.mp hr with rfl|hr
   ·exact Int.le_of_eq he.symm
   ·rcases ao.mp hr with rfl|hr
    ·rw [ev_neg,he];exact Int.le_refl _
    ·exact q r hr
noncomputable def newM (done:List K):M->Option K
 |[]=>az
 |q::p=>cond (done.any (sk q.2.2)) (newM done p) (aa q.2.2)
noncomputable def srch:Nat->List K->List R->List L->List L->Bool
 |0,_,_,_,_=>false
 |n+1,done,[],es,rs=>gs 50 es rs
 |n+1,done,r::td,es,rs=>match newM done r.2.2.2 with
  |some k=>(fk k).all λb=>srch n (k::done) (b++r::td) es (ps k rs)
  |none=>cond r.1 (srch n done td (r.2::es) rs) (srch n done td es (r.2::rs))
set_option tactic.hygienic true in
theorem srch_no: ∀{n:Nat} {done:List K} {td:List R} {es rs:List L},srch n done td es rs=ai->Oks ρ σ td->(∀e∈es,ev ρ σ e=0)->Pos ρ σ rs->False
 |n+1,done,[],es,rs,h,_,k,q=>gs_no h k q
 |n+1,done,r::td,es,rs,h,o,k,q=>by
  unfold srch at h
  split at h
  ·next j _=>
   obtain ⟨b,hb,r⟩:=fk_ok (ρ:=ρ) (σ:=σ) j
   exact srch_no (bq.mp h b hb) (app_ok r o) k (ps_ok q j)
  ·have o2:Oks ρ σ td:=λr hr=>o r (fS _ hr)
   have o1:=o r dy
   obtain ⟨b,r⟩:=r
   cases b with
   |true=>exact srch_no h o2 (λe he=>(ao.mp he).elim (λz=>z▸o1) (k e)) q
   |false=>exact srch_no h o2 k λe he=>(ao.mp he).elim (λz=>z▸o1) (q e)
def chk (p:P):Bool:=(nf p false).all λb=>srch 100 [] b [] []
theorem chk_ok {p:P} (h:chk p=ai):dp ρ σ p:=jz λq=>
 let ⟨b,hb,r⟩:=(nf_ok p).2 q;srch_no (bq.mp h b hb) r (λz h=>nomatch h) λz h=>nomatch h
end LA
noncomputable abbrev xA:LA.T:=.v 0
noncomputable abbrev xB:LA.T:=.v 1
noncomputable abbrev xC:LA.T:=.v 2
noncomputable abbrev xD:LA.T:=.v 3
noncomputable abbrev xE:LA.T:=.v 4
noncomputable abbrev xF:LA.T:=.v 5
noncomputable abbrev xG:LA.T:=.v 6
noncomputable abbrev xH:LA.T:=.v 7
noncomputable abbrev xI:LA.T:=.c 1
noncomputable abbrev xJ:LA.T:=.c 0
noncomputable abbrev xK:LA.T:=.c 4
noncomputable abbrev xL:LA.T:=.c 16777216
noncomputable abbrev xM:LA.T:=.c 2
noncomputable abbrev xN:LA.T:=.c 5
noncomputable abbrev xO:LA.T:=.c 3
noncomputable abbrev xP:LA.T:=.c 100
noncomputable abbrev xQ:LA.T:=.c 1000
noncomputable abbrev xR:LA.T:=.c 128
noncomputable abbrev xS:LA.T:=.c 9223372036854775808
noncomputable abbrev Nv:LA.T:=.c 4611686018427387904
theorem my (p:LA.P) (ρ:List Nat) (σ:List Int:=[]) (h:autoParam (LA.chk p=ai) XQ):LA.dp ρ σ p:=LA.chk_ok h
end
section
open PySem.Float64
noncomputable def sZ (c n a:Nat) (k:Nat->Nat->Nat):Nat:=cond (dg (iD 2 c) n) (k (jV n c) (gd a c)) (k n a)
def lg (n:Nat):Nat:=sZ 1024 n 0 λn a=>sZ 512 n a λn a=>sZ 256 n a λn a=>sZ 128 n a λn a=>sZ 64 n a λn a=>sZ 32 n a λn a=>sZ 16 n a λn a=>sZ 8 n a λn a=>sZ 4 n a λn a=>sZ 2 n a λn a=>sZ 1 n a λz a=>a
def HH (c:Nat) (k:Nat->Nat->Nat):Prop:=(∀a,k 0 a=a)/\ ∀n a,0<n->n<2^c-> ∃j,k n a=a+j/\2^j<=n/\n<2^(j+1)
theorem s8 (h:HH c k):HH (c+c) (λn a=>sZ c n a k):=by
 have z:dg (iD 2 c) 0=false:=by
  cases e:dg (iD 2 c) 0 with
  |false=>rfl
  |true=>have:=cR e;have:0<2^c:=cj c;exact absurd (cR e) (by exact (my (.i (.b xJ xA) (.n (.l xA xJ))) [_]) this)
 refine ⟨λa=> ?_,λn a h0 hn=> ?_⟩
 ·show cond _ _ _=_
  exact z▸(h.1 a)
 ·show ∃j,cond _ _ _=_/\_
  cases e:dg (iD 2 c) n with
  |true=>
   have hl:2^c<=n:=cR e
   have hs:jV n c=n/2^c:=Nat.shiftRight_eq_div_pow n c
   have h1:0<n/2^c:=Nat.div_pos hl (cj c)
   have h2:n/2^c<2^c:=by rw [ew (cj c),<-dk];exact hn
   obtain ⟨j,e1,e2,e3⟩:=h.2 _ (gd a c) h1 h2
   refine ⟨c+j,?_,?_,?_⟩
   ·show k (jV n c) (gd a c)=_
    rw [hs,e1];exact my (.e (.a (.a xA xB) xC) (.a xA (.a xB xC))) [_,_,_]
   ·rw [dk,eM]
    exact (ie (cj c)).mp e2
   ·rw [show c+j+1=j+1+c by exact my (.e (.a (.a xA xB) xI) (.a (.a xB xI) xA)) [_,_],dk]
    exact (ew (cj c)).mp e3
  |false=>
   have hl:n<2^c:=by
    have: ¬2^c<=n:=λq=>by rw [show dg (iD 2 c) n=ai from ig q] at e;exact ro e
    exact (my (.i (.n (.l xB xA)) (.b xA xB)) [_,_]) this
   exact h.2 n a h0 hl
theorem MZ:HH 2048 (λn a=>sZ 1024 n a λn a=>sZ 512 n a λn a=>sZ 256 n a λn a=>sZ 128 n a λn a=>sZ 64 n a λn a=>sZ 32 n a λn a=>sZ 16 n a λn a=>sZ 8 n a λn a=>sZ 4 n a λn a=>sZ 2 n a λn a=>sZ 1 n a λz a=>a):=by
 have b:HH 1 (λz a=>a):=⟨λz=>rfl,λn a h0 h1=>⟨0,rfl,by exact (my (.i (.b xJ xA) (.l xI xA)) [_]) h0,by omega⟩⟩
 exact s8 (c:=1024) (s8 (c:=512) (s8 (c:=256) (s8 (c:=128) (s8 (c:=64) (s8 (c:=32) (s8 (c:=16) (s8 (c:=8) (s8 (c:=4) (s8 (c:=2) (s8 (c:=1) b))))))))))
theorem HC (h0:0<n) (h:n<2^2048):2^lg n<=n/\n<2^(lg n+1):=by
 obtain ⟨j,e,a,b⟩:=MZ.2 n 0 h0 h
 have:lg n=j:=by exact (show lg n=0+j from e)▸(my (.e (.a xJ xA) xA) [_])
 exact this▸(⟨a,b⟩)
theorem Hq:lg 0=0:=MZ.1 0
theorem Ru (h:n<2^2048) (a:2^j<=n) (b:n<2^(j+1)):lg n=j:=by
 have h0:0<n:=bg (cj j) a
 obtain ⟨c,d⟩:=HC h0 h
 have x: ∀{p q:Nat},2^p<2^(q+1)->p<=q:=λ{p q} z=>Nat.le_of_lt_succ ((kj (by decide)).mp z)
 have:=x (cX a d)
 have:=x (cX c b)
 exact (my (.i (.l xB xA) (.i (.l xA xB) (.e xA xB))) [_,_]) (by assumption) this
def rn (n d:Nat):Nat:=
 let k:=kE (lg (gB n d)) 52
 let D:=iR d k
 let q:=gB n D
 let r:=de 2 (kF n D)
 iR (gd q (cond (dg r D) (cond (bN r D) (kF q 2) 0) 1)) k
theorem vF (n d:Nat):rn n d=halfEven n (d*2^(lg (n/d) - 52))*2^(lg (n/d) - 52):=by
 show iR _ _=_
 have e: ∀a b,iR a b=a*2^b:=λa b=>Nat.shiftLeft_eq a b
 rw [e,e]
 congr 1
 generalize d*2^(lg (n/d) - 52)=D
 unfold halfEven
 show n/D+cond (dg (2*(n % D)) D) (cond (bN (2*(n % D)) D) ((n/D) % 2) 0) 1=_
 simp only
 have hb:dg (2*(n % D)) D=decide (2*(n % D)<=D):=by
  rw [dE,mc,decide_eq_true_iff]
 have hq:bN (2*(n % D)) D=decide (2*(n % D)=D):=by
  rw [dE,me,decide_eq_true_iff]
 rw [hb,hq]
 by_cases h:2*(n % D)<=D
 ·by_cases h2:2*(n % D)=D
  ·have:=Nat.mod_two_eq_zero_or_one (n/D)
   rcases this with h3|h3<;>simp [h,h2,h3]
  ·have: ¬D<2*(n % D):=by exact (my (.i (.l (.m 2 xB) xA) (.n (.b xA (.m 2 xB)))) [_,_]) h
   simp [h,h2,this]
 ·have:D<2*(n % D):=by exact (my (.i (.n (.l (.m 2 xB) xA)) (.b xA (.m 2 xB))) [_,_]) h
  simp [h,this]
theorem Bn (hb:0<b) (hd:0<d) (h:a*d=n*b):halfEven a b=halfEven n d:=by
 have hq:a/b=n/d:=by
  have h1:=fI a b hd
  have h2:=fI n d hb
  rw [<-h1,<-h2,h,eM d b]
 have hr:(a % b)*d=(n % d)*b:=by
  have h1:=Nat.div_add_mod a b
  have h2:=Nat.div_add_mod n d
  have h3:(b*(a/b)+a % b)*d=(d*(n/d)+n % d)*b:=by rw [h1,h2];exact h
  rw [iz,iz,hq] at h3
  have h4:b*(n/d)*d=d*(n/d)*b:=by ac_rfl
  exact (my (.i (.e (.a xC xA) (.a xD xB)) (.i (.e xC xD) (.e xA xB))) [_,_,_,_]) h3 h4
 have Un:(2*(a % b)>b)=(2*(n % d)>d):=by
  apply propext
  have l:2*(a % b)>b↔2*(a % b)*d>b*d:=(iA hd).symm
  have r:2*(n % d)>d↔2*(n % d)*b>d*b:=(iA hb).symm
  rw [l,r,dJ,dJ,hr,eM b d]
 have heq:(2*(a % b)=b)=(2*(n % d)=d):=by
  apply propext
  have l:2*(a % b)=b↔2*(a % b)*d=b*d:=⟨λq=>by rw [q],λq=>jZ hd q⟩
  have r:2*(n % d)=d↔2*(n % d)*b=d*b:=⟨λq=>by rw [q],λq=>jZ hb q⟩
  rw [l,r,dJ,dJ,hr,eM b d]
 have UZ:(2*(a % b)==b)=(2*(n % d)==d):=by
  rw [dE,beq_iff_eq,beq_iff_eq,heq]
 unfold halfEven
 simp only [Un,UZ,hq]
noncomputable def U:Nat:=2^1074
theorem D0:0<U:=cj _
theorem TM {p:Int} (h: -1074<=p) (hk:(p+1074).toNat=k) (hz: -p>=0):1074=(-p).toNat+k:=by exact (my (.i (.L (.g (.c 1074)) xA) (.i (.e (.t (.a xA (.c 1074))) xA) (.i (.L xJ (.g xA)) (.e (.c 1074) (.a (.t (.g xA)) xA))))) [_] [_]) h hk hz
theorem Rl {p:Int} (hk:(p+1074).toNat=k) (hz: ¬ -p>=0):k=1074+(- -p).toNat:=by exact (my (.i (.e (.t (.a xA (.c 1074))) xA) (.i (.n (.L xJ (.g xA))) (.e xA (.a (.c 1074) (.t (.g (.g xA))))))) [_] [_]) hk hz
theorem TW {p:Int} (hk:(p+1074).toNat=k) (h:p= -1074):k=0:=by exact (my (.i (.e (.t (.a xA (.c 1074))) xA) (.i (.E xA (.g (.c 1074))) (.e xA xJ))) [_] [_]) hk h
theorem Qa {a b:Nat} (h:min a b<a):min a b=b:=by exact (my (.i (.b (.n xA xB) xA) (.e (.n xA xB) xB)) [_,_]) h
theorem Tu {W a b c:Nat} (h1:a<b) (h2:b<c) (d1:W - a+(a - W)<=W - b+(b - W)) (d2:W - c+(c - W)<=W - b+(b - W)):False:=(kK W b).elim (λh=>(my (.i (.l xA xB) (.i (.b xB xC) (.n (.l (.a (.s xA xC) (.s xC xA)) (.a (.s xA xB) (.s xB xA)))))) [_,_,_]) h h2 d2) λh=>(my (.i (.l xB xA) (.i (.b xC xB) (.n (.l (.a (.s xA xC) (.s xC xA)) (.a (.s xA xB) (.s xB xA)))))) [_,_,_]) h h1 d1
theorem O3 (h:x<y) (e1:x % 2=0) (e2:y % 2=0):x+1<y:=by exact (my (.i (.b xA xB) (.i (.e (.e xA 2) xJ) (.i (.e (.e xB 2) xJ) (.b (.a xA xI) xB)))) [_,_]) h e1 e2
theorem OY (hd:0<d) (Un:roundMag n d<infMag) (hs:n*U/d<2^2048):V (roundMag n d)=rn (n*U) d:=by
 by_cases hn:n=0
 ·subst hn
  have:roundMag 0 d=0:=by unfold roundMag;rfl
  rw [this,vF]
  simp [V,Hq,halfEven]
 ·obtain ⟨p1,p2⟩:=place_spec hn hd
  have p3:=place_ge n d
  rw [roundMag_eq' hn] at Un ⊢
  generalize hA:(shift n d (-(place n d))).1=a at*
  generalize hB:(shift n d (-(place n d))).2=b at*
  have hb:0<b:=hB▸shift_pos n d _ hd
  generalize hK:(place n d+1074).toNat=k at*
  have WJ:a*(d*2^k)=n*U*b:=by
   unfold shift at hA hB
   unfold U
   split at hA<;>rename_i hz
   ·rw [if_pos hz] at hB
    dsimp only at hA hB
    subst hA hB
    have:1074=(-place n d).toNat+k:=TM p3 hK hz
    rw [this,dk]
    ac_rfl
   ·rw [if_neg hz] at hB
    dsimp only at hA hB
    subst hA hB
    have:k=1074+(- -place n d).toNat:=Rl hK hz
    rw [this,dk]
    ac_rfl
  generalize U=u at hs WJ ⊢
  have hq1:halfEven a b<=2^53:=by
   have:=halfEven_le' a b hb
   have:a/b<2^53:=(ew hb).mpr p1
   omega
  have hq2:2^52<=halfEven a b\/k=0:=by
   rcases p2 with p2|p2
   ·exact .inr (TW hK p2)
   ·left
    have h1:2^52<=a/b:=(ie hb).mpr p2
    have:a/b<=halfEven a b:=by unfold halfEven;simp only;split<;>(first|exact my (.l xA (.a xA xI)) [_]|exact my (.l xA xA) [_])
    omega
  have hmin:min infMag (k*2^52+halfEven a b)=k*2^52+halfEven a b:=Qa Un
  rw [hmin,V_at hq1 hq2,vF]
  have hD:0<d*2^k:=jF hd (cj k)
  have hk:lg (n*u/d) - 52=k:=by
   have up:n*u/d<2^(52+k+1):=by
    rw [ew hd]
    refine Nat.lt_of_mul_lt_mul_right (a:=b) ?_
    rw [<-WJ]
    have h3:=(iA hD).mpr p1
    have h4:2^53*b*(d*2^k)=2^(52+k+1)*d*b:=by
     rw [show 52+k+1=53+k by exact my (.e (.a (.a (.c 52) xA) xI) (.a (.c 53) xA)) [_],dk]
     generalize 2^53=z
     generalize 2^k=z'
     ac_rfl
    rw [h4] at h3
    exact h3
   by_cases h0:2^52*b<=a
   ·have lo:2^(52+k)<=n*u/d:=by
     rw [ie hd]
     refine Nat.le_of_mul_le_mul_right (c:=b) ?_ hb
     rw [<-WJ]
     have h3:=lE (d*2^k) h0
     have h4:2^52*b*(d*2^k)=2^(52+k)*d*b:=by
      rw [dk]
      generalize 2^52=z
      generalize 2^k=z'
      ac_rfl
     rw [h4] at h3
     exact h3
    exact (Ru hs lo up)▸(my (.e (.s (.a (.c 52) xA) (.c 52)) xA) [_])
   ·have hk0:k=0:=by rcases p2 with p2|p2<;>omega
    subst hk0
    by_cases hz:n*u/d=0
    ·rw [hz,Hq]
    ·obtain ⟨l1,l2⟩:=HC (Nat.pos_of_ne_zero hz) hs
     have:lg (n*u/d)<53:=by
      have:2^lg (n*u/d)<2^53:=cX l1 (by simpa using up)
      exact (kj (by decide)).mp this
     exact ic (Nat.le_of_lt_succ this)
  rw [hk,Bn hb hD WJ]
theorem Ec {neg:Bool} (h:Right r neg W D) (hD:0<D) (hs:W/D<2^2048): ∃t,r=pack neg t/\t<infMag/\V t=rn W D:=by
 obtain ⟨t,e,Vm,hov,hr⟩:=h
 have UM: ¬D*((2^54 - 1)*2^2045)<=2*W:=by
  intro q
  have h1:W<D*2^2048:=by rw [eM];exact (ew hD).mp hs
  have h2:(2:Nat)^2048*2<=(2^54 - 1)*2^2045:=by decide+kernel
  have h3:=Nat.mul_le_mul_left D h2
  have h4:D*(2^2048*2)=2*(D*2^2048):=by generalize (2:Nat)^2048=z;rw [<-dJ,eM]
  rw [h4] at h3
  have h5:=ch h3 q
  omega
 have Un:t<infMag:=by
  rcases dI t infMag with q|q
  ·exact q
  ·exact absurd (hov.mp (by exact (my (.i (.l xA xB) (.i (.l xB xA) (.e xA xB))) [_,_]) Vm q)) UM
 refine ⟨t,e,Un,?_⟩
 have hDU:0<D*U:=jF hD D0
 have hW:W*2^1074*D=W*(D*U):=by unfold U;rw [dJ,eM (2^1074) D]
 have hlt0:roundMag W (D*U)<infMag:=by
  rcases dI (roundMag W (D*U)) infMag with q|q
  ·exact q
  ·have hm:roundMag W (D*U)<=infMag:=by rw [roundMag_min];exact my (.l (.n xA xB) xA) [_,_]
   exact absurd ((over_of hDU hW hD).mp (by exact (my (.i (.l xB xA) (.i (.l xA xB) (.e xA xB))) [_,_]) q hm)) UM
 have WZ:W*U/(D*U)=W/D:=fI W D D0
 have hV:=OY hDU hlt0 (by exact WZ▸hs)
 have hrn:rn (W*U) (D*U)=rn W D:=by
  rw [vF,vF,WZ]
  congr 1
  refine Bn (jF hDU (cj _)) (jF hD (cj _)) ?_
  generalize 2^(lg (W/D) - 52)=z
  generalize U=u
  ac_rfl
 rw [hrn] at hV
 rw [<-hV]
 by_cases Uk:V t=V (roundMag W (D*U))
 ·exact Uk
 ·exfalso
  have r1:=hr Un
  have r2:=right_of hDU hW hD hlt0
  generalize roundMag W (D*U)=t0 at*
  have a1:=(r1 t0).1
  have a2:=(r2 t).1
  have ev1:=(r1 t0).2 (λq=>Uk q.symm) (by exact (my (.i (.l xA xB) (.i (.l xB xA) (.e xA xB))) [_,_]) a1 a2)
  have ev2:=(r2 t).2 Uk (by exact (my (.i (.l xB xA) (.i (.l xA xB) (.e xA xB))) [_,_]) a1 a2)
  have qt: ∀x y:Nat,x<y->x % 2=0->y % 2=0->dist W (D*V x)<=dist W (D*V (x+1))->dist W (D*V y)<=dist W (D*V (x+1))->dist W (D*V x)=dist W (D*V y)->False:=by
   intro x y hxy e1 e2 d1 d2 d3
   have v1:=(lS hD).mpr (V_succ x)
   exact Tu v1 ((lS hD).mpr (V_lt (t:=x+1) (t':=y) (O3 hxy e1 e2))) d1 d2
  rcases dI t t0 with q|q
  ·exact qt t t0 q ev1 ev2 (r1 _).1 (r2 _).1 (by exact (my (.i (.l xA xB) (.i (.l xB xA) (.e xA xB))) [_,_]) a1 a2)
  ·have:t0≠t:=λz=>Uk (z▸rfl)
   exact qt t0 t (by exact (my (.i (.l xA xB) (.i (.n (.e xA xB)) (.b xA xB))) [_,_]) q this) ev2 ev1 (r2 _).1 (r1 _).1 (by exact (my (.i (.l xB xA) (.i (.l xA xB) (.e xA xB))) [_,_]) a1 a2)
structure Fx where
 s:Bool
 m:Nat
 deriving Inhabited
def Fn (x:UInt64):Prop:= ∃a k e,decode x= .fin a k e
def FR (f:Fx) (x:UInt64):Prop:=Fn x/\val x=sgn f.s f.m
noncomputable def BB:Nat:=2^1500
def vO (s:Bool) (W D:Nat):Option Fx:=cond (dg (gB W D) BB) (aa ⟨s,rn W D⟩) az
theorem th (h:Right r t W D) (hD:0<D) (e:vO s W D=aa f) (ht:t=s\/(W=0)):FR f r:=by
 unfold vO at e
 cases hb:dg (gB W D) BB with
 |false=>rw [hb] at e;exact nE e
 |true=>
  rw [hb] at e
  obtain rfl:=am e
  have h1:W/D<=BB:=cR hb
  have h2:BB<2^2048:=by exact lB (by decide) (by decide)
  obtain ⟨t',rfl,lt,hv⟩:=Ec h hD (cX h1 h2)
  obtain ⟨m,k,hd,_⟩:=decode_pack t lt
  refine ⟨⟨_,_,_,hd⟩,?_⟩
  rw [val_pack t lt,hv]
  rcases ht with rfl|rfl
  ·rfl
  ·have:rn 0 D=0:=by rw [vF];simp [halfEven]
   rw [this];cases t<;>cases s<;>rfl
theorem AF (b:Bool):Fn (zero b)/\val (zero b)=0:=by
 have h0:0<infMag:=by decide
 obtain ⟨m,k,hd,_⟩:=decode_pack b h0
 refine ⟨⟨_,_,_,hd⟩,?_⟩
 show val (pack b 0)=0
 rw [val_pack b h0]
 cases b<;>decide
theorem Ov (D:Nat):rn 0 D=0:=by rw [vF];simp [halfEven]
theorem LR (e:vO s 0 D=aa f) (x:UInt64) (h:Fn x) (hv:val x=0):FR f x:=by
 unfold vO at e
 cases hb:dg (gB 0 D) BB with
 |false=>rw [hb] at e;exact nE e
 |true=>
  rw [hb] at e
  obtain rfl:=am e
  refine ⟨h,?_⟩
  rw [hv,Ov]
  cases s<;>rfl
def Cp (f g:Fx):Option Fx:=match f,g with
 |⟨a,m⟩,⟨b,k⟩=>cond (cond a b (cond b false ai)) (vO a (gd m k) 1) (cond (dg k m) (vO a (kE m k) 1) (vO b (kE k m) 1))
noncomputable def Lh (f:Fx):Fx:=match f with|⟨a,m⟩=>⟨cond a false ai,m⟩
def Me (f g:Fx):Option Fx:=Cp f (Lh g)
def Lv (f g:Fx):Option Fx:=match f,g with
 |⟨a,m⟩,⟨b,k⟩=>vO (cond a (cond b false ai) b) (de m k) U
def zd (f g:Fx):Option Fx:=match f,g with
 |⟨a,m⟩,⟨b,k⟩=>cond (bN k 0) az (vO (cond a (cond b false ai) b) (de m U) k)
def DJ (f:Fx):Option Fx:=match f with
 |⟨a,m⟩=>match vO a (kF m U) 1 with
  |none=>az
  |some ⟨_,0⟩=>aa ⟨false,0⟩
  |some ⟨false,r⟩=>aa ⟨false,r⟩
  |some ⟨ai,r⟩=>Cp ⟨ai,r⟩ ⟨false,U⟩
noncomputable def ve (f g:Fx):Bool:=match f,g with
 |⟨false,m⟩,⟨false,k⟩=>jl m k
 |⟨ai,m⟩,⟨ai,k⟩=>jl k m
 |⟨ai,m⟩,⟨false,k⟩=> !(bN m 0&&bN k 0)
 |⟨false,_⟩,⟨ai,_⟩=>false
noncomputable def sU (f g:Fx):Bool:=match f,g with
 |⟨a,m⟩,⟨b,k⟩=>bN m k&&(cond a b (cond b false ai)||Nat.beq m 0)
def Ic (f:Fx):Option Nat:=match f with
 |⟨false,m⟩=>aa (gB m U)
 |⟨ai,_⟩=>az
def PK (i:Int):Option Fx:=match i with
 |.ofNat n=>vO false (de n U) 1
 |.negSucc n=>vO ai (de (Nat.succ n) U) 1
theorem xj (hx:FR f x) (hy:FR g y) (e:Cp f g=aa r):FR r (add x y):=by
 obtain ⟨⟨a',m',e',U6⟩,WR⟩:=hx
 obtain ⟨⟨b',k',f',VP⟩,hy2⟩:=hy
 obtain ⟨h0,h1⟩:=add_right U6 VP
 obtain ⟨a,m⟩:=f
 obtain ⟨b,k⟩:=g
 dsimp only at WR hy2
 rw [WR,hy2] at h0 h1
 have UA: ∀(s:Bool) (W:Nat),vO s W 1=aa r->sgn a m+sgn b k=sgn s W->FR r (add x y):=by
  intro s W e hz
  by_cases hW:W=0
  ·subst hW
   have z:sgn a m+sgn b k=0:=by rw [hz];cases s<;>rfl
   rw [h0 z]
   have:=AF (a'&&b')
   exact LR e _ this.1 this.2
  ·have nz:sgn a m+sgn b k≠0:=by rw [hz];unfold sgn;cases s<;>simp<;>omega
   have R:=h1 nz
   rw [hz] at R
   have e1:(sgn s W).natAbs=W:=sgn_natAbs s W
   have e2:decide (sgn s W<0)=s:=by unfold sgn;cases s<;>simp<;>omega
   rw [e1,e2] at R
   exact th R (by decide) e (.inl rfl)
 unfold Cp at e
 dsimp only at e
 cases a<;>cases b<;>dsimp only [cond] at e
 ·exact UA _ _ e (by unfold sgn;rfl)
 ·cases hb:dg k m with
  |true=>
   rw [hb] at e
   have:=cR hb
   exact UA _ _ e (by simp;exact (my (.i (.l xB xA) (.E (.a (.k xA) (.g (.k xB))) (.k (.s xA xB)))) [_,_]) this)
  |false=>
   rw [hb] at e
   have: ¬k<=m:=λq=>by rw [show dg k m=ai from ig q] at hb;exact ro hb
   exact UA _ _ e (by simp;exact (my (.i (.n (.l xB xA)) (.E (.a (.k xA) (.g (.k xB))) (.g (.k (.s xB xA))))) [_,_]) this)
 ·cases hb:dg k m with
  |true=>
   rw [hb] at e
   have:=cR hb
   exact UA _ _ e (by simp;exact (my (.i (.l xB xA) (.E (.a (.g (.k xA)) (.k xB)) (.g (.k (.s xA xB))))) [_,_]) this)
  |false=>
   rw [hb] at e
   have: ¬k<=m:=λq=>by rw [show dg k m=ai from ig q] at hb;exact ro hb
   exact UA _ _ e (by simp;exact (my (.i (.n (.l xB xA)) (.E (.a (.g (.k xA)) (.k xB)) (.k (.s xB xA)))) [_,_]) this)
 ·exact UA _ _ e (by simp;exact my (.E (.a (.g (.k xA)) (.g (.k xB))) (.g (.a (.k xA) (.k xB)))) [_,_])
theorem Ol (hy:FR g y):FR (Lh g) (neg y):=by
 obtain ⟨⟨b',k',f',VP⟩,hy2⟩:=hy
 refine ⟨⟨_,_,_,neg_decode VP⟩,?_⟩
 rw [neg_val VP,hy2]
 obtain ⟨b,k⟩:=g
 cases b<;>simp [sgn,Lh]
theorem Cv (hx:FR f x) (hy:FR g y) (e:Me f g=aa r):FR r (sub x y):=by with_unfolding_all exact xj hx (Ol hy) e
theorem FR.sign (h:FR f x) (hx:decode x= .fin a m e):(val x).natAbs=f.m/\(a=f.s\/f.m=0):=by
 have e1:(val x).natAbs=f.m:=by rw [h.2,sgn_natAbs]
 refine ⟨e1,?_⟩
 by_cases hz:f.m=0
 ·exact .inr hz
 ·left
  have e2:=h.2
  rw [val_eq hx] at e2
  have:m*2^(e+1074).toNat=f.m:=by rw [<-val_natAbs hx,e1]
  rw [this] at e2
  revert e2
  cases a<;>cases f.s<;>simp<;>(first|exact (my (.i (.n (.e xA xJ)) (.n (.E (.g (.k xA)) (.k xA)))) [_]) hz|exact (my (.i (.n (.e xA xJ)) (.n (.E (.k xA) (.g (.k xA))))) [_]) hz)
theorem B1 (hx:FR f x) (hy:FR g y) (e:Lv f g=aa r):FR r (mul x y):=by
 obtain ⟨a',m',e',U6⟩:=hx.1
 obtain ⟨b',k',f',VP⟩:=hy.1
 have R:=mul_right U6 VP
 obtain ⟨v1,s1⟩:=hx.sign U6
 obtain ⟨v2,s2⟩:=hy.sign VP
 rw [v1,v2] at R
 obtain ⟨a,m⟩:=f
 obtain ⟨b,k⟩:=g
 dsimp only at*
 refine th R D0 e ?_
 rcases s1 with s1|s1
 ·rcases s2 with s2|s2
  ·left;subst s1 s2;cases a'<;>cases b'<;>rfl
  ·right;subst s2;rfl
 ·right;subst s1;exact my (.e (.m 0 xA) xJ) [_]
theorem An {α:Type} {a b:α}:cond false a b=b:=rfl
theorem D9 (h:bN k 0=false):k≠0:=λq=>by subst q;exact ro h
theorem zL (hx:FR f x) (hy:FR g y) (e:zd f g=aa r):FR r (div x y)/\isZero y=false:=by
 obtain ⟨a',m',e',U6⟩:=hx.1
 obtain ⟨b',k',f',VP⟩:=hy.1
 obtain ⟨v1,s1⟩:=hx.sign U6
 obtain ⟨v2,s2⟩:=hy.sign VP
 obtain ⟨a,m⟩:=f
 obtain ⟨b,k⟩:=g
 dsimp only at*
 unfold zd at e
 dsimp only at e
 cases hb:bN k 0 with
 |true=>rw [hb] at e;exact nE e
 |false=>
  rw [hb,An] at e
  have hk:=D9 hb
  have XA:k'≠0:=λq=>by rw [val_natAbs VP,q] at v2;simp at v2;exact (my (.i (.n (.e xA xJ)) (.n (.e xJ xA))) [_]) hk v2
  have R:=div_right U6 VP XA
  rw [v1,v2,show (2:Nat)^1074=U from rfl,<- @jS m U] at R
  refine ⟨th R (by exact (my (.i (.n (.e xA xJ)) (.b xJ xA)) [_]) hk) e ?_,?_⟩
  ·rcases s1 with s1|s1
   ·rcases s2 with s2|s2
    ·left;subst s1 s2;cases a'<;>cases b'<;>rfl
    ·exact absurd s2 hk
   ·right;subst s1;exact jS▸(Nat.zero_mul U)
  ·unfold isZero;rw [VP]
   split
   ·rename_i h;cases h;exact absurd rfl XA
   ·rfl
theorem JV (hx:FR f x) (hy:FR g y):cmp x y=aa (compare (sgn f.s f.m) (sgn g.s g.m)):=by
 obtain ⟨a',m',e',U6⟩:=hx.1
 obtain ⟨b',k',f',VP⟩:=hy.1
 rw [cmp_right U6 VP,hx.2,hy.2]
theorem OB (f g:Fx):ve f g=decide (sgn f.s f.m<sgn g.s g.m):=by
 obtain ⟨a,m⟩:=f
 obtain ⟨b,k⟩:=g
 have hblt: ∀p q:Nat,jl p q=decide (p<q):=λp q=>by rw [dE,Nat.blt_eq,decide_eq_true_iff]
 have UZ: ∀p:Nat,bN p 0=decide (p=0):=λp=>by rw [dE,me,decide_eq_true_iff]
 cases a<;>cases b
 ·show jl m k=decide ((m:Int)<(k:Int))
  rw [hblt];exact decide_eq_decide.mpr (by omega)
 ·show false=decide ((m:Int)< -(k:Int))
  exact (decide_eq_false (by exact my (.n (.B (.k xA) (.g (.k xB)))) [_,_])).symm
 ·show (!(bN m 0&&bN k 0))=decide (-(m:Int)<(k:Int))
  rw [UZ,UZ]
  by_cases h1:m=0
  ·by_cases h2:k=0
   ·subst h1 h2;rfl
   ·rw [decide_eq_false h2,decide_eq_true (show -(m:Int)<(k:Int) by exact (my (.i (.n (.e xB xJ)) (.B (.g (.k xA)) (.k xB))) [_,_]) h2),iq];rfl
  ·rw [decide_eq_false h1,decide_eq_true (show -(m:Int)<(k:Int) by exact (my (.i (.n (.e xA xJ)) (.B (.g (.k xA)) (.k xB))) [_,_]) h1),jN];rfl
 ·show jl k m=decide (-(m:Int)< -(k:Int))
  rw [hblt];exact decide_eq_decide.mpr (by omega)
theorem Hs (f g:Fx):sU f g=decide (sgn f.s f.m=sgn g.s g.m):=by
 obtain ⟨a,m⟩:=f
 obtain ⟨b,k⟩:=g
 have UZ: ∀p q:Nat,bN p q=decide (p=q):=λp q=>by rw [dE,me,decide_eq_true_iff]
 have h2: ∀c:Bool,(decide (m=k)&&(c||decide (m=0)))=decide (m=k/\(c=ai\/m=0)):=λc=>by cases c<;>simp
 cases a<;>cases b
 ·show (bN m k&&(ai||Nat.beq m 0))=decide ((m:Int)=(k:Int))
  rw [UZ,UZ,h2];exact decide_eq_decide.mpr (by constructor<;>intro h<;>simp at* <;>(first|exact (my (.i (.E (.k xA) (.k xB)) (.e xA xB)) [_,_]) h|exact (my (.i (.e xA xB) (.E (.k xA) (.k xB))) [_,_]) h))
 ·show (bN m k&&(false||Nat.beq m 0))=decide ((m:Int)= -(k:Int))
  rw [UZ,UZ,h2];exact decide_eq_decide.mpr (by constructor<;>intro h<;>simp at* <;>(first|exact (my (.i (.E (.k xA) (.g (.k xB))) (.a (.e xA xB) (.e xA xJ))) [_,_]) h|exact (my (.i (.e xA xB) (.i (.e xA xJ) (.E (.k xA) (.g (.k xB))))) [_,_]) h.1 h.2))
 ·show (bN m k&&(false||Nat.beq m 0))=decide (-(m:Int)=(k:Int))
  rw [UZ,UZ,h2];exact decide_eq_decide.mpr (by constructor<;>intro h<;>simp at* <;>(first|exact (my (.i (.E (.g (.k xA)) (.k xB)) (.a (.e xA xB) (.e xA xJ))) [_,_]) h|exact (my (.i (.e xA xB) (.i (.e xA xJ) (.E (.g (.k xA)) (.k xB)))) [_,_]) h.1 h.2))
 ·show (bN m k&&(ai||Nat.beq m 0))=decide (-(m:Int)= -(k:Int))
  rw [UZ,UZ,h2];exact decide_eq_decide.mpr (by constructor<;>intro h<;>simp at* <;>(first|exact (my (.i (.E (.k xA) (.k xB)) (.e xA xB)) [_,_]) h|exact (my (.i (.e xA xB) (.E (.k xA) (.k xB))) [_,_]) h))
theorem DL (hx:FR f x) (hy:FR g y):(cmp x y==aa Ordering.lt)=ve f g:=by
 rw [JV hx hy,OB]
 rcases jq (sgn f.s f.m) (sgn g.s g.m) with h|h|h
 ·rw [jr.mpr h];simp [h]
 ·rw [h];simp
 ·rw [js.mpr h]
  have: ¬sgn f.s f.m<sgn g.s g.m:=by exact (my (.i (.B xB xA) (.n (.B xA xB))) [] [_,_]) h
  simp [this]
theorem Iy (hx:FR f x) (hy:FR g y):(cmp x y==aa Ordering.eq)=sU f g:=by
 rw [JV hx hy,Hs]
 rcases jq (sgn f.s f.m) (sgn g.s g.m) with h|h|h
 ·rw [jr.mpr h]
  have: ¬sgn f.s f.m=sgn g.s g.m:=by exact (my (.i (.B xA xB) (.n (.E xA xB))) [] [_,_]) h
  simp [this]
 ·rw [h];simp
 ·rw [js.mpr h]
  have: ¬sgn f.s f.m=sgn g.s g.m:=by exact (my (.i (.B xB xA) (.n (.E xA xB))) [] [_,_]) h
  simp [this]
theorem Qn (e:PK i=aa r):FR r (ofInt i):=by
 have R:=ofInt_right i
 cases i with
 |ofNat n=>exact th (t:=decide ((ff n)<0)) (W:=n*U) R (by decide) e (.inl (decide_eq_false (Int.not_lt.mpr (d9 n))))
 |negSucc n=>exact th (t:=decide ((Int.negSucc n)<0)) (W:=(n+1)*U) R (by decide) e (.inl (decide_eq_true (Int.negSucc_lt_zero n)))
noncomputable abbrev r8:UInt64:=0x3FF0000000000000
theorem CB:decode r8= .fin false (2^52) (-52):=by with_unfolding_all rfl
theorem CV:2^52*2^1022=U:=by unfold U;rw [<-dk]
theorem PC:FR ⟨false,U⟩ r8:=by
 refine ⟨⟨_,_,_,CB⟩,?_⟩
 rw [val_eq CB,show ((-52:Int)+1074).toNat=1022 from rfl,CV]
theorem GI:FR ⟨false,0⟩ (zero false):=⟨(AF false).1,by rw [(AF false).2];rfl⟩
theorem Je (h:FR f x):isZero x=bN f.m 0:=by
 obtain ⟨a,m,e,hx⟩:=h.1
 have v:=(h.sign hx).1
 rw [val_natAbs hx] at v
 unfold isZero
 rw [hx]
 have hp:0<2^(e+1074).toNat:=cj _
 generalize 2^(e+1074).toNat=z at*
 generalize f.m=k at*
 cases m with
 |zero=>
  have:k=0:=by rw [<-v,Nat.zero_mul]
  subst this;rfl
 |succ m=>
  have:k≠0:=by exact v▸(Nat.mul_ne_zero (by exact my (.n (.e (.a xA xI) xJ)) [_]) (by exact (my (.i (.b xJ xA) (.n (.e xA xJ))) [_]) hp))
  cases k with
  |zero=>exact absurd rfl this
  |succ k=>rfl
theorem LM (hx:decode x= .fin a m e):Right (fmod x r8) a (m*2^(e+1074).toNat % U) 1:=by
 have he:=decode_ge hx
 have hf:fmod x r8=ofBin a (m*2^(e - min e (-52)).toNat % (2^52*2^(-52 - min e (-52)).toNat)) (min e (-52)):=by
  unfold fmod
  rw [hx,CB]
  rfl
 rw [hf]
 generalize hg:min e (-52)=g
 have hg1: -1074<=g:=by exact (my (.i (.L (.g (.c 1074)) xB) (.i (.E (.n xB (.g (.c 52))) xA) (.L (.g (.c 1074)) xA))) [] [_,_]) he hg
 have e1:m*2^(e+1074).toNat=m*2^(e - g).toNat*2^(g+1074).toNat:=by
  rw [dJ,<-dk];congr 2;exact (my (.i (.E (.n xA (.g (.c 52))) xB) (.e (.t (.a xA (.c 1074))) (.a (.t (.s xA xB)) (.t (.a xB (.c 1074)))))) [] [_,_]) hg
 have e2:U=2^52*2^(-52 - g).toNat*2^(g+1074).toNat:=by
  rw [dJ,<-dk,<-CV];congr 2;exact (my (.i (.E (.n xB (.g (.c 52))) xA) (.i (.L (.g (.c 1074)) xA) (.e (.c 1022) (.a (.t (.s (.g (.c 52)) xA)) (.t (.a xA (.c 1074))))))) [] [_,_]) hg hg1
 rw [e1,e2,Nat.mul_mod_mul_right]
 generalize m*2^(e - g).toNat % (2^52*2^(-52 - g).toNat)=M
 refine ofFrac_right (shift_pos _ _ _ (by decide)) ?_ (by decide)
 have:=shift_one M g 1074 (by omega)
 rw [Nat.mul_one]
 exact this
theorem Ms (hx:FR f x) (e:DJ f=aa r):FR r (divmod x r8).2:=by
 obtain ⟨a',m',e',U6⟩:=hx.1
 have R:=LM U6
 obtain ⟨v1,s1⟩:=hx.sign U6
 rw [val_natAbs U6] at v1
 rw [v1] at R
 obtain ⟨a,m⟩:=f
 dsimp only at*
 unfold DJ at e
 dsimp only at e
 have hs:(divmod x r8).2=if isZero (fmod x r8) then copysign (zero false) r8 else if lt r8 (zero false)!=lt (fmod x r8) (zero false) then add (fmod x r8) r8 else fmod x r8:=by
  unfold divmod
  dsimp only
  split<;>rename_i h1
  ·rfl
  ·split<;>rename_i h2
   ·rfl
   ·rfl
 rw [hs]
 cases hg:vO a (kF m U) 1 with
 |none=>rw [hg] at e;exact nE e
 |some r0=>
  rw [hg] at e
  have F0:FR r0 (fmod x r8):=th R (by decide) hg (by
   rcases s1 with s1|s1
   ·exact .inl s1
   ·right;subst s1;exact Nat.zero_mod U)
  rw [Je F0]
  have hl0:lt r8 (zero false)=false:=by decide+kernel
  have hl:lt (fmod x r8) (zero false)=ve r0 ⟨false,0⟩:=DL F0 GI
  rw [hl0,hl]
  obtain ⟨b,k⟩:=r0
  cases k with
  |zero=>
   skip
   obtain rfl:=am e
   have hc:copysign (zero false) r8=zero false:=by decide+kernel
   rw [hc]
   exact GI
  |succ k=>
   show FR _ (if (false:Bool)=ai then _ else _)
   rw [if_neg (by decide)]
   cases b with
   |false=>
    skip
    obtain rfl:=am e
    exact F0
   |true=>
    skip
    exact xj F0 PC e
theorem OP (hx:FR f x) (e:Ic f=aa n): ∃a m k,decode x= .fin a m k/\truncOf a m k=n:=by
 obtain ⟨a,m,k,h⟩:=hx.1
 refine ⟨a,m,k,h,?_⟩
 have hk:=decode_ge h
 obtain ⟨v,s⟩:=hx.sign h
 rw [val_natAbs h] at v
 obtain ⟨b,M⟩:=f
 cases b with
 |true=>exact nE e
 |false=>
  obtain rfl:=am e
  dsimp only at*
  have fl:floorOf false m k=((M/U:Nat):Int):=by
   unfold floorOf sgn
   split
   ·rename_i h0
    simp only [a9,if_false]
    have:M=m*2^k.toNat*U:=by
     rw [<-v];unfold U;rw [dJ,<-dk];congr 2;exact (my (.i (.L xJ xA) (.e (.t (.a xA (.c 1074))) (.a (.t xA) (.c 1074)))) [] [_]) h0
    rw [this,Nat.mul_div_cancel _ D0,Int.natCast_mul]
    simp
   ·rename_i h0
    simp only [a9,if_false]
    have hU:U=2^(-k).toNat*2^(k+1074).toNat:=by unfold U;rw [<-dk];congr 1;exact (my (.i (.L (.g (.c 1074)) xA) (.i (.n (.L xJ xA)) (.e (.c 1074) (.a (.t (.g xA)) (.t (.a xA (.c 1074))))))) [] [_]) hk h0
    have:M/U=m/2^(-k).toNat:=by
     rw [<-v,hU,fI _ _ (cj _)]
    rw [this]
    have e1:(2:Int)^(-k).toNat=((2^(-k).toNat:Nat):Int):=by rfl
    rw [e1,bX _ (d9 _)]
    rfl
  cases a with
  |false=>exact fl
  |true=>
   rcases s with s|s
   ·exact ro s
   ·subst s
    have hp:0<2^(k+1074).toNat:=cj _
    have hm:m=0:=by
     rcases Nat.mul_eq_zero.mp v with q|q
     ·exact q
     ·exact (my (.i (.b xJ xB) (.i (.e xB xJ) (.e xA xJ))) [_,_]) hp q
    subst hm
    unfold truncOf ceilOf
    simp only [if_true,iN]
    rw [fl,Nat.zero_div];rfl
end
section
open PySem.Calls PyProof.Rows
theorem eA {G:Prop} (h:p0/\p1) (k:p0->p1->G):G:=k h.1 h.2
theorem rQ {G:Prop} (h:p0/\p1/\p2) (k:p0->p1->p2->G):G:=k h.1 h.2.1 h.2.2
theorem Ck {G:Prop} (h:p0/\p1/\p2/\p3) (k:p0->p1->p2->p3->G):G:=k h.1 h.2.1 h.2.2.1 h.2.2.2
theorem Nx {G:Prop} (h:p0/\p1/\p2/\p3/\p4) (k:p0->p1->p2->p3->p4->G):G:=k h.1 h.2.1 h.2.2.1 h.2.2.2.1 h.2.2.2.2
theorem L3 {G:Prop} (h:p0/\p1/\p2/\p3/\p4/\p5/\p6/\p7) (k:p0->p1->p2->p3->p4->p5->p6->p7->G):G:=k h.1 h.2.1 h.2.2.1 h.2.2.2.1 h.2.2.2.2.1 h.2.2.2.2.2.1 h.2.2.2.2.2.2.1 h.2.2.2.2.2.2.2
theorem Nt {p3:Aa->Prop} {G:Prop} (h:p0/\p1/\p2/\ ∃a,p3 a) (k:p0->p1->p2-> ∀a,p3 a->G):G:=al h.2.2.2 λa h0=>k h.1 h.2.1 h.2.2.1 a h0
theorem zU {Aa:Sort u0} {Ab:Sort u1} {Ac:Sort u2} {Ad:Sort u3} {p3:Aa->Ab->Ac->Ad->Ae->Prop} {p4:Aa->Ab->Ac->Ad->Ae->Prop} {p5:Aa->Ab->Ac->Ad->Ae->Prop} {p6:Aa->Ab->Ac->Ad->Ae->Prop} {p7:Aa->Ab->Ac->Ad->Ae->Prop} {p8:Aa->Ab->Ac->Ad->Ae->Prop} {p9:Aa->Ab->Ac->Ad->Ae->Prop} {p10:Aa->Ab->Ac->Ad->Ae->Prop} {p11:Aa->Ab->Ac->Ad->Ae->Prop} {G:Prop} (h:p0/\p1/\p2/\ ∃a,∃b,∃c,∃d,∃e,p3 a b c d e/\p4 a b c d e/\p5 a b c d e/\p6 a b c d e/\p7 a b c d e/\p8 a b c d e/\p9 a b c d e/\p10 a b c d e/\p11 a b c d e) (k:p0->p1->p2-> ∀a,∀b,∀c,∀d,∀e,p3 a b c d e->p4 a b c d e->p5 a b c d e->p6 a b c d e->p7 a b c d e->p8 a b c d e->p9 a b c d e->p10 a b c d e->p11 a b c d e->G):G:=al h.2.2.2 λa h0=>al h0 λb h1=>al h1 λc h2=>al h2 λd h3=>al h3 λe h4=>k h.1 h.2.1 h.2.2.1 a b c d e h4.1 h4.2.1 h4.2.2.1 h4.2.2.2.1 h4.2.2.2.2.1 h4.2.2.2.2.2.1 h4.2.2.2.2.2.2.1 h4.2.2.2.2.2.2.2.1 h4.2.2.2.2.2.2.2.2
theorem HJ {p2:Aa->Prop} {p3:Aa->Prop} {G:Prop} (h:p0/\p1/\ ∃a,p2 a/\p3 a) (k:p0->p1-> ∀a,p2 a->p3 a->G):G:=al h.2.2 λa h0=>k h.1 h.2.1 a h0.1 h0.2
theorem QU {p2:Aa->Prop} {p3:Aa->Prop} {p4:Aa->Prop} {G:Prop} (h:p0/\p1/\ ∃a,p2 a/\p3 a/\p4 a) (k:p0->p1-> ∀a,p2 a->p3 a->p4 a->G):G:=al h.2.2 λa h0=>k h.1 h.2.1 a h0.1 h0.2.1 h0.2.2
theorem NZ {Aa:Sort u0} {p2:Aa->Ab->Prop} {p3:Aa->Ab->Prop} {p4:Aa->Ab->Prop} {G:Prop} (h:p0/\p1/\ ∃a,∃b,p2 a b/\p3 a b/\p4 a b) (k:p0->p1-> ∀a,∀b,p2 a b->p3 a b->p4 a b->G):G:=al h.2.2 λa h0=>al h0 λb h1=>k h.1 h.2.1 a b h1.1 h1.2.1 h1.2.2
theorem MA {Aa:Sort u0} {Ab:Sort u1} {p2:Aa->Ab->Ac->Prop} {p3:Aa->Ab->Ac->Prop} {p4:Aa->Ab->Ac->Prop} {G:Prop} (h:p0/\p1/\ ∃a,∃b,∃c,p2 a b c/\p3 a b c/\p4 a b c) (k:p0->p1-> ∀a,∀b,∀c,p2 a b c->p3 a b c->p4 a b c->G):G:=al h.2.2 λa h0=>al h0 λb h1=>al h1 λc h2=>k h.1 h.2.1 a b c h2.1 h2.2.1 h2.2.2
theorem oV {p1:Aa->Prop} {p2:Aa->Prop} {G:Prop} (h:p0/\ ∃a,p1 a/\p2 a) (k:p0-> ∀a,p1 a->p2 a->G):G:=al h.2 λa h0=>k h.1 a h0.1 h0.2
theorem M0 {p1:Aa->Prop} {p2:Aa->Prop} {p3:Aa->Prop} {G:Prop} (h:p0/\ ∃a,p1 a/\p2 a/\p3 a) (k:p0-> ∀a,p1 a->p2 a->p3 a->G):G:=al h.2 λa h0=>k h.1 a h0.1 h0.2.1 h0.2.2
theorem IN {Aa:Sort u0} {Ab:Sort u1} {p1:Aa->Ab->Ac->Prop} {p2:Aa->Ab->Ac->Prop} {p3:Aa->Ab->Ac->Prop} {p4:Aa->Ab->Ac->Prop} {p5:Aa->Ab->Ac->Prop} {p6:Aa->Ab->Ac->Prop} {G:Prop} (h:p0/\ ∃a,∃b,∃c,p1 a b c/\p2 a b c/\p3 a b c/\p4 a b c/\p5 a b c/\p6 a b c) (k:p0-> ∀a,∀b,∀c,p1 a b c->p2 a b c->p3 a b c->p4 a b c->p5 a b c->p6 a b c->G):G:=al h.2 λa h0=>al h0 λb h1=>al h1 λc h2=>k h.1 a b c h2.1 h2.2.1 h2.2.2.1 h2.2.2.2.1 h2.2.2.2.2.1 h2.2.2.2.2.2
theorem eE {p0:Aa->Prop} {G:Prop} (h: ∃a,p0 a) (k: ∀a,p0 a->G):G:=al h λa h0=>k a h0
theorem mR {p0:Aa->Prop} {p1:Aa->Prop} {G:Prop} (h: ∃a,p0 a/\p1 a) (k: ∀a,p0 a->p1 a->G):G:=al h λa h0=>k a h0.1 h0.2
theorem tF {p0:Aa->Prop} {p1:Aa->Prop} {p2:Aa->Prop} {G:Prop} (h: ∃a,p0 a/\p1 a/\p2 a) (k: ∀a,p0 a->p1 a->p2 a->G):G:=al h λa h0=>k a h0.1 h0.2.1 h0.2.2
theorem RG {p0:Aa->Prop} {p1:Aa->Prop} {p2:Aa->Prop} {p3:Aa->Prop} {G:Prop} (h: ∃a,p0 a/\p1 a/\p2 a/\p3 a) (k: ∀a,p0 a->p1 a->p2 a->p3 a->G):G:=al h λa h0=>k a h0.1 h0.2.1 h0.2.2.1 h0.2.2.2
theorem MH {p0:Aa->Prop} {p1:Aa->Prop} {p2:Aa->Prop} {p3:Aa->Prop} {p4:Aa->Prop} {p5:Aa->Prop} {p6:Aa->Prop} {G:Prop} (h: ∃a,p0 a/\p1 a/\p2 a/\p3 a/\p4 a/\p5 a/\p6 a) (k: ∀a,p0 a->p1 a->p2 a->p3 a->p4 a->p5 a->p6 a->G):G:=al h λa h0=>k a h0.1 h0.2.1 h0.2.2.1 h0.2.2.2.1 h0.2.2.2.2.1 h0.2.2.2.2.2.1 h0.2.2.2.2.2.2
theorem Ir {Aa:Sort u0} {p0:Aa->Prop} {p1:Aa->Prop} {p2:Aa->Ab->Prop} {G:Prop} (h: ∃a,p0 a/\p1 a/\ ∃b,p2 a b) (k: ∀a,p0 a->p1 a-> ∀b,p2 a b->G):G:=al h λa h0=>al h0.2.2 λb h1=>k a h0.1 h0.2.1 b h1
theorem M5 {Aa:Sort u0} {p0:Aa->Prop} {p1:Aa->Ab->Prop} {p2:Aa->Ab->Prop} {G:Prop} (h: ∃a,p0 a/\ ∃b,p1 a b/\p2 a b) (k: ∀a,p0 a-> ∀b,p1 a b->p2 a b->G):G:=al h λa h0=>al h0.2 λb h1=>k a h0.1 b h1.1 h1.2
theorem yN {Aa:Sort u0} {p0:Aa->Prop} {p1:Aa->Ab->Prop} {p2:Aa->Ab->Prop} {p3:Aa->Ab->Prop} {G:Prop} (h: ∃a,p0 a/\ ∃b,p1 a b/\p2 a b/\p3 a b) (k: ∀a,p0 a-> ∀b,p1 a b->p2 a b->p3 a b->G):G:=al h λa h0=>al h0.2 λb h1=>k a h0.1 b h1.1 h1.2.1 h1.2.2
theorem rN {Aa:Sort u0} {p0:Aa->Ab->Prop} {G:Prop} (h: ∃a,∃b,p0 a b) (k: ∀a,∀b,p0 a b->G):G:=al h λa h0=>al h0 λb h1=>k a b h1
theorem oU {Aa:Sort u0} {p0:Aa->Ab->Prop} {p1:Aa->Ab->Prop} {G:Prop} (h: ∃a,∃b,p0 a b/\p1 a b) (k: ∀a,∀b,p0 a b->p1 a b->G):G:=al h λa h0=>al h0 λb h1=>k a b h1.1 h1.2
theorem nh {Aa:Sort u0} {p0:Aa->Ab->Prop} {p1:Aa->Ab->Prop} {p2:Aa->Ab->Prop} {G:Prop} (h: ∃a,∃b,p0 a b/\p1 a b/\p2 a b) (k: ∀a,∀b,p0 a b->p1 a b->p2 a b->G):G:=al h λa h0=>al h0 λb h1=>k a b h1.1 h1.2.1 h1.2.2
theorem ni {Aa:Sort u0} {p0:Aa->Ab->Prop} {p1:Aa->Ab->Prop} {p2:Aa->Ab->Prop} {p3:Aa->Ab->Prop} {G:Prop} (h: ∃a,∃b,p0 a b/\p1 a b/\p2 a b/\p3 a b) (k: ∀a,∀b,p0 a b->p1 a b->p2 a b->p3 a b->G):G:=al h λa h0=>al h0 λb h1=>k a b h1.1 h1.2.1 h1.2.2.1 h1.2.2.2
theorem Gq {Aa:Sort u0} {Ab:Sort u1} {Ac:Sort u2} {p0:Aa->Ab->Prop} {p1:Aa->Ab->Prop} {p2:Aa->Ab->Prop} {p3:Aa->Ab->Ac->Ad->Prop} {p4:Aa->Ab->Ac->Ad->Prop} {p5:Aa->Ab->Ac->Ad->Prop} {p6:Aa->Ab->Ac->Ad->Prop} {G:Prop} (h: ∃a,∃b,p0 a b/\p1 a b/\p2 a b/\ ∃c,∃d,p3 a b c d/\p4 a b c d/\p5 a b c d/\p6 a b c d) (k: ∀a,∀b,p0 a b->p1 a b->p2 a b-> ∀c,∀d,p3 a b c d->p4 a b c d->p5 a b c d->p6 a b c d->G):G:=al h λa h0=>al h0 λb h1=>al h1.2.2.2 λc h2=>al h2 λd h3=>k a b h1.1 h1.2.1 h1.2.2.1 c d h3.1 h3.2.1 h3.2.2.1 h3.2.2.2
theorem vo {Aa:Sort u0} {Ab:Sort u1} {p0:Aa->Ab->Ac->Prop} {G:Prop} (h: ∃a,∃b,∃c,p0 a b c) (k: ∀a,∀b,∀c,p0 a b c->G):G:=al h λa h0=>al h0 λb h1=>al h1 λc h2=>k a b c h2
theorem wD {Aa:Sort u0} {Ab:Sort u1} {p0:Aa->Ab->Ac->Prop} {p1:Aa->Ab->Ac->Prop} {G:Prop} (h: ∃a,∃b,∃c,p0 a b c/\p1 a b c) (k: ∀a,∀b,∀c,p0 a b c->p1 a b c->G):G:=al h λa h0=>al h0 λb h1=>al h1 λc h2=>k a b c h2.1 h2.2
theorem vX {Aa:Sort u0} {Ab:Sort u1} {p0:Aa->Ab->Ac->Prop} {p1:Aa->Ab->Ac->Prop} {p2:Aa->Ab->Ac->Prop} {G:Prop} (h: ∃a,∃b,∃c,p0 a b c/\p1 a b c/\p2 a b c) (k: ∀a,∀b,∀c,p0 a b c->p1 a b c->p2 a b c->G):G:=al h λa h0=>al h0 λb h1=>al h1 λc h2=>k a b c h2.1 h2.2.1 h2.2.2
theorem rZ {Aa:Sort u0} {Ab:Sort u1} {p0:Aa->Ab->Ac->Prop} {p1:Aa->Ab->Ac->Prop} {p2:Aa->Ab->Ac->Prop} {p3:Aa->Ab->Ac->Prop} {G:Prop} (h: ∃a,∃b,∃c,p0 a b c/\p1 a b c/\p2 a b c/\p3 a b c) (k: ∀a,∀b,∀c,p0 a b c->p1 a b c->p2 a b c->p3 a b c->G):G:=al h λa h0=>al h0 λb h1=>al h1 λc h2=>k a b c h2.1 h2.2.1 h2.2.2.1 h2.2.2.2
theorem uB {Aa:Sort u0} {Ab:Sort u1} {p0:Aa->Ab->Ac->Prop} {p1:Aa->Ab->Ac->Prop} {p2:Aa->Ab->Ac->Prop} {p3:Aa->Ab->Ac->Prop} {p4:Aa->Ab->Ac->Prop} {G:Prop} (h: ∃a,∃b,∃c,p0 a b c/\p1 a b c/\p2 a b c/\p3 a b c/\p4 a b c) (k: ∀a,∀b,∀c,p0 a b c->p1 a b c->p2 a b c->p3 a b c->p4 a b c->G):G:=al h λa h0=>al h0 λb h1=>al h1 λc h2=>k a b c h2.1 h2.2.1 h2.2.2.1 h2.2.2.2.1 h2.2.2.2.2
theorem Qi {Aa:Sort u0} {Ab:Sort u1} {Ac:Sort u2} {p0:Aa->Ab->Ac->Ad->Prop} {p1:Aa->Ab->Ac->Ad->Prop} {G:Prop} (h: ∃a,∃b,∃c,∃d,p0 a b c d/\p1 a b c d) (k: ∀a,∀b,∀c,∀d,p0 a b c d->p1 a b c d->G):G:=al h λa h0=>al h0 λb h1=>al h1 λc h2=>al h2 λd h3=>k a b c d h3.1 h3.2
theorem Ef {Aa:Sort u0} {Ab:Sort u1} {Ac:Sort u2} {p0:Aa->Ab->Ac->Ad->Prop} {p1:Aa->Ab->Ac->Ad->Prop} {p2:Aa->Ab->Ac->Ad->Prop} {p3:Aa->Ab->Ac->Ad->Prop} {G:Prop} (h: ∃a,∃b,∃c,∃d,p0 a b c d/\p1 a b c d/\p2 a b c d/\p3 a b c d) (k: ∀a,∀b,∀c,∀d,p0 a b c d->p1 a b c d->p2 a b c d->p3 a b c d->G):G:=al h λa h0=>al h0 λb h1=>al h1 λc h2=>al h2 λd h3=>k a b c d h3.1 h3.2.1 h3.2.2.1 h3.2.2.2
theorem Ba {Aa:Sort u0} {Ab:Sort u1} {Ac:Sort u2} {p0:Aa->Ab->Ac->Ad->Prop} {p1:Aa->Ab->Ac->Ad->Prop} {p2:Aa->Ab->Ac->Ad->Prop} {p3:Aa->Ab->Ac->Ad->Prop} {p4:Aa->Ab->Ac->Ad->Prop} {p5:Aa->Ab->Ac->Ad->Prop} {G:Prop} (h: ∃a,∃b,∃c,∃d,p0 a b c d/\p1 a b c d/\p2 a b c d/\p3 a b c d/\p4 a b c d/\p5 a b c d) (k: ∀a,∀b,∀c,∀d,p0 a b c d->p1 a b c d->p2 a b c d->p3 a b c d->p4 a b c d->p5 a b c d->G):G:=al h λa h0=>al h0 λb h1=>al h1 λc h2=>al h2 λd h3=>k a b c d h3.1 h3.2.1 h3.2.2.1 h3.2.2.2.1 h3.2.2.2.2.1 h3.2.2.2.2.2
theorem z5 {Aa:Sort u0} {Ab:Sort u1} {Ac:Sort u2} {p0:Aa->Ab->Ac->Ad->Prop} {p1:Aa->Ab->Ac->Ad->Prop} {p2:Aa->Ab->Ac->Ad->Prop} {p3:Aa->Ab->Ac->Ad->Prop} {p4:Aa->Ab->Ac->Ad->Prop} {p5:Aa->Ab->Ac->Ad->Prop} {p6:Aa->Ab->Ac->Ad->Prop} {G:Prop} (h: ∃a,∃b,∃c,∃d,p0 a b c d/\p1 a b c d/\p2 a b c d/\p3 a b c d/\p4 a b c d/\p5 a b c d/\p6 a b c d) (k: ∀a,∀b,∀c,∀d,p0 a b c d->p1 a b c d->p2 a b c d->p3 a b c d->p4 a b c d->p5 a b c d->p6 a b c d->G):G:=al h λa h0=>al h0 λb h1=>al h1 λc h2=>al h2 λd h3=>k a b c d h3.1 h3.2.1 h3.2.2.1 h3.2.2.2.1 h3.2.2.2.2.1 h3.2.2.2.2.2.1 h3.2.2.2.2.2.2
theorem JR {Aa:Sort u0} {Ab:Sort u1} {Ac:Sort u2} {Ad:Sort u3} {p0:Aa->Ab->Ac->Ad->Ae->Prop} {G:Prop} (h: ∃a,∃b,∃c,∃d,∃e,p0 a b c d e) (k: ∀a,∀b,∀c,∀d,∀e,p0 a b c d e->G):G:=al h λa h0=>al h0 λb h1=>al h1 λc h2=>al h2 λd h3=>al h3 λe h4=>k a b c d e h4
theorem GN {Aa:Sort u0} {Ab:Sort u1} {Ac:Sort u2} {Ad:Sort u3} {p0:Aa->Ab->Ac->Ad->Ae->Prop} {p1:Aa->Ab->Ac->Ad->Ae->Prop} {G:Prop} (h: ∃a,∃b,∃c,∃d,∃e,p0 a b c d e/\p1 a b c d e) (k: ∀a,∀b,∀c,∀d,∀e,p0 a b c d e->p1 a b c d e->G):G:=al h λa h0=>al h0 λb h1=>al h1 λc h2=>al h2 λd h3=>al h3 λe h4=>k a b c d e h4.1 h4.2
theorem Gm {Aa:Sort u0} {Ab:Sort u1} {Ac:Sort u2} {Ad:Sort u3} {p0:Aa->Ab->Ac->Ad->Ae->Prop} {p1:Aa->Ab->Ac->Ad->Ae->Prop} {p2:Aa->Ab->Ac->Ad->Ae->Prop} {p3:Aa->Ab->Ac->Ad->Ae->Prop} {p4:Aa->Ab->Ac->Ad->Ae->Prop} {p5:Aa->Ab->Ac->Ad->Ae->Prop} {G:Prop} (h: ∃a,∃b,∃c,∃d,∃e,p0 a b c d e/\p1 a b c d e/\p2 a b c d e/\p3 a b c d e/\p4 a b c d e/\p5 a b c d e) (k: ∀a,∀b,∀c,∀d,∀e,p0 a b c d e->p1 a b c d e->p2 a b c d e->p3 a b c d e->p4 a b c d e->p5 a b c d e->G):G:=al h λa h0=>al h0 λb h1=>al h1 λc h2=>al h2 λd h3=>al h3 λe h4=>k a b c d e h4.1 h4.2.1 h4.2.2.1 h4.2.2.2.1 h4.2.2.2.2.1 h4.2.2.2.2.2
theorem OI {Aa:Sort u0} {Ab:Sort u1} {Ac:Sort u2} {Ad:Sort u3} {Ae:Sort u4} {p0:Aa->Ab->Ac->Ad->Ae->Af->Prop} {G:Prop} (h: ∃a,∃b,∃c,∃d,∃e,∃f,p0 a b c d e f) (k: ∀a,∀b,∀c,∀d,∀e,∀f,p0 a b c d e f->G):G:=al h λa h0=>al h0 λb h1=>al h1 λc h2=>al h2 λd h3=>al h3 λe h4=>al h4 λf h5=>k a b c d e f h5
theorem AG {Aa:Sort u0} {Ab:Sort u1} {Ac:Sort u2} {Ad:Sort u3} {Ae:Sort u4} {p0:Aa->Ab->Ac->Ad->Ae->Af->Prop} {p1:Aa->Ab->Ac->Ad->Ae->Af->Prop} {G:Prop} (h: ∃a,∃b,∃c,∃d,∃e,∃f,p0 a b c d e f/\p1 a b c d e f) (k: ∀a,∀b,∀c,∀d,∀e,∀f,p0 a b c d e f->p1 a b c d e f->G):G:=al h λa h0=>al h0 λb h1=>al h1 λc h2=>al h2 λd h3=>al h3 λe h4=>al h4 λf h5=>k a b c d e f h5.1 h5.2
theorem CN {Aa:Sort u0} {Ab:Sort u1} {Ac:Sort u2} {Ad:Sort u3} {Ae:Sort u4} {Af:Sort u5} {p0:Aa->Ab->Ac->Ad->Ae->Af->Ag->Prop} {p1:Aa->Ab->Ac->Ad->Ae->Af->Ag->Prop} {G:Prop} (h: ∃a,∃b,∃c,∃d,∃e,∃f,∃g,p0 a b c d e f g/\p1 a b c d e f g) (k: ∀a,∀b,∀c,∀d,∀e,∀f,∀g,p0 a b c d e f g->p1 a b c d e f g->G):G:=al h λa h0=>al h0 λb h1=>al h1 λc h2=>al h2 λd h3=>al h3 λe h4=>al h4 λf h5=>al h5 λg h6=>k a b c d e f g h6.1 h6.2
theorem r4 {Aa:Sort u0} {Ab:Sort u1} {Ac:Sort u2} {Ad:Sort u3} {Ae:Sort u4} {Af:Sort u5} {Ag:Sort u6} {Ah:Sort u7} {Ai:Sort u8} {p0:Aa->Ab->Ac->Ad->Ae->Af->Ag->Prop} {p1:Aa->Ab->Ac->Ad->Ae->Af->Ag->Ah->Ai->Aj->Prop} {p2:Aa->Ab->Ac->Ad->Ae->Af->Ag->Ah->Ai->Aj->Prop} {p3:Aa->Ab->Ac->Ad->Ae->Af->Ag->Ah->Ai->Aj->Prop} {G:Prop} (h: ∃a,∃b,∃c,∃d,∃e,∃f,∃g,p0 a b c d e f g/\ ∃h,∃i,∃j,p1 a b c d e f g h i j/\p2 a b c d e f g h i j/\p3 a b c d e f g h i j) (k: ∀a,∀b,∀c,∀d,∀e,∀f,∀g,p0 a b c d e f g-> ∀h,∀i,∀j,p1 a b c d e f g h i j->p2 a b c d e f g h i j->p3 a b c d e f g h i j->G):G:=al h λa h0=>al h0 λb h1=>al h1 λc h2=>al h2 λd h3=>al h3 λe h4=>al h4 λf h5=>al h5 λg h6=>al h6.2 λh h7=>al h7 λi h8=>al h8 λj h9=>k a b c d e f g h6.1 h i j h9.1 h9.2.1 h9.2.2
inductive PV where
 |none
 |bool (b:Bool)
 |int (i:Int)
 |float (x:UInt64)
 |fx (f:Fx)
 |str (x:Str)
 |bytes (b:Array UInt8)
 |tup (l:List PV)
 |list (l:List PV)
 |raw (v:ay)
 |inst (L:aF)
 |hdr (l:List PV)
 deriving Inhabited
structure oO (h:aW) (a d L:aF):Prop where
 obj:h.get? a=aa (fZ 293 d)
 dic: ∃od,h.get? d=aa od/\gm "_headers" od=aa (aa (.ref L))/\ ∀n:Str,(n=="_headers")=false->gm n od=aa az
abbrev mU (h h':aW):Prop:= ∀b o,h.get? b=aa o->h'.get? b=aa o
theorem mU.trans (a:mU h h') (b:mU h' Wu):mU h Wu:=λx o e=>b x o (a x o e)
theorem mU.rfl:mU h h:=λz z e=>e
abbrev oH (X:List aF) (h h':aW):Prop:= ∀b o,b∉X->h.get? b=aa o->h'.get? b=aa o
abbrev n7 (X:List aF) (h:aW):Prop:= ∀a∈X,∃o,h.get? a=aa o
theorem Dd {h h':aW} (k:mU h h') (e:h'.get? b=az):h.get? b=az:=by
 cases q:h.get? b with
 |none=>rfl
 |some o=>exact absurd ((k b o q).symm.trans e) nofun
theorem n7.keep (l:n7 X h) (k:mU h h'):n7 X h':=λa ha=>let ⟨o,e⟩:=l a ha;⟨o,k _ _ e⟩
mutual
def mP (X:List aF) (h:aW):PV->ay->Prop
 |.none,v=>v= .none
 |.bool b,v=>v= .bool b
 |.int i,v=> ∃t,v= .int i t
 |.float x,v=> ∃t,v= .float x t
 |.fx f,v=> ∃x t,v= .float x t/\FR f x
 |.str x,v=> ∃t,v= .str x t
 |.bytes x,v=> ∃t,v= .bytes x t
 |.raw u,v=>v=u
 |.tup l,v=> ∃a vs,v= .ref a/\a∉X/\IsTup h a vs.toArray/\mK X h l vs
 |.list l,v=> ∃a vs,v= .ref a/\a∉X/\h.IsList a vs.toArray/\mK X h l vs
 |.inst L,v=> ∃a d,v= .ref a/\a∉X/\d∉X/\oO h a d L
 |.hdr l,v=> ∃a d L vs,v= .ref a/\a∉X/\d∉X/\L∉X/\oO h a d L/\h.IsList L vs.toArray/\mK X h l vs
def mK (X:List aF) (h:aW):List PV->List ay->Prop
 |[],vs=>vs=[]
 |p::ps,vs=> ∃v us,vs=v::us/\mP X h p v/\mK X h ps us
end
def NF (o:Obj):Prop:= ∀vs,o.data≠ .fields vs
abbrev Mv (X Y:List aF) (h h':aW):Prop:= ∀a o,a∉X->h.get? a=aa o->NF o->a∉Y/\h'.get? a=aa o
theorem xi (k:Mv X Y h h') {T:ay} (ha:a∉X) (t: ∃o,h.get? a=aa o/\o.cls=T/\ ∃n,o.data= .seq vs n):a∉Y/\ ∃o,h'.get? a=aa o/\o.cls=T/\ ∃n,o.data= .seq vs n:=
 let ⟨o,q1,q2,n,q3⟩:=t;let z:=k a o ha q1 λy h=>nomatch q3.symm.trans h;⟨z.1,o,z.2,q2,n,q3⟩
theorem GL (k:Mv X Y h h') (ha:a∉X) (hd:d∉X) (t:oO h a d L):a∉Y/\d∉Y/\oO h' a d L:=
 let ⟨o,q,e,r⟩:=t.dic
 let z:=k a _ ha t.obj λj h=>nomatch h
 let y:=k d o hd q λj h=>by unfold gm at e;rw [h] at e;exact nE e
 ⟨z.1,y.1,z.2,o,y.2,e,r⟩
mutual
theorem mP.gen (k:Mv X Y h h'): ∀{p:PV} {v:ay},mP X h p v->mP Y h' p v
 |.none,_,r=>r
 |.bool _,_,r=>r
 |.int _,_,r=>r
 |.float _,_,r=>r
 |.fx _,_,r=>r
 |.str _,_,r=>r
 |.bytes _,_,r=>r
 |.raw _,_,r=>r
 |.tup l,v,r=>by
  unfold mP at r ⊢
  exact ni r λa vs e ha t q=>⟨a,vs,e,(xi k ha t).1,(xi k ha t).2,mK.gen k q⟩
 |.list l,v,r=>by
  unfold mP at r ⊢
  exact ni r λa vs e ha t q=>⟨a,vs,e,(xi k ha t).1,(xi k ha t).2,mK.gen k q⟩
 |.inst L,v,r=>by
  unfold mP at r ⊢
  exact ni r λa d e ha hd t=>⟨a,d,e,GL k ha hd t⟩
 |.hdr l,v,r=>by
  unfold mP at r ⊢
  exact z5 r λa d L vs e ha hd hL t tl q=>rQ (GL k ha hd t) λz1 z2 z3=>eA (xi k hL tl) λy1 y2=>⟨a,d,L,vs,e,z1,z2,y1,z3,y2,mK.gen k q⟩
theorem mK.gen (k:Mv X Y h h'): ∀{ps:List PV} {vs:List ay},mK X h ps vs->mK Y h' ps vs
 |[],_,r=>r
 |p::ps,vs,r=>by
  unfold mK at r ⊢
  exact nh r λv us e a b=>⟨v,us,e,mP.gen k a,mK.gen k b⟩
end
theorem mP.keepX (k:oH X h h') (r:mP X h p v):mP X h' p v:=r.gen λa o ha e z=>⟨ha,k a o ha e⟩
theorem mK.keepX (k:oH X h h') (r:mK X h p v):mK X h' p v:=r.gen λa o ha e z=>⟨ha,k a o ha e⟩
theorem mP.sub (k: ∀b,b∈Y->(∃o,h.get? b=aa o)->b∈X) (r:mP X h p v):mP Y h p v:=r.gen λa o ha e z=>⟨λhb=>ha (k a hb ⟨o,e⟩),e⟩
theorem mK.sub (k: ∀b,b∈Y->(∃o,h.get? b=aa o)->b∈X) (r:mK X h p v):mK Y h p v:=r.gen λa o ha e z=>⟨λhb=>ha (k a hb ⟨o,e⟩),e⟩
theorem mP.keep (k:mU h h') (r:mP X h p v):mP X h' p v:=r.keepX λb o z e=>k b o e
theorem mK.keep (k:mU h h') (r:mK X h p v):mK X h' p v:=r.keepX λb o z e=>k b o e
theorem mK.nil:mK X h [] []:=by rfl
theorem mK.cons (a:mP X h p v) (b:mK X h ps vs):mK X h (p::ps) (v::vs):=by
 exact ⟨v,vs,rfl,a,b⟩
theorem mK.len: ∀{ps:List PV} {vs:List ay},mK X h ps vs->vs.length=ps.length
 |[],vs,r=>by subst r;rfl
 |p::ps,vs,r=>by
  refine nh r ?_;clear r;intro v us T1 _ b;obtain rfl:=T1
  simp [b.len]
theorem mK.get: ∀{ps:List PV} {vs:List ay} {i:Nat} {p:PV},mK X h ps vs->ps[i]? =aa p-> ∃v,vs[i]? =aa v/\mP X h p v
 |[],_,_,_,_,e=>by simp at e
 |p::ps,vs,i,q,r,e=>by
  refine nh r ?_;clear r;intro v us T1 a b;obtain rfl:=T1
  cases i with
  |zero=>simp at e;subst e;exact ⟨v,rfl,a⟩
  |succ i=>simp at e;simpa using b.get e
theorem mK.append: ∀{ps qs:List PV} {vs ws:List ay},mK X h ps vs->mK X h qs ws->mK X h (ps++qs) (vs++ws)
 |[],_,vs,_,r,k=>by subst r;exact k
 |p::ps,_,vs,_,r,k=>by
  refine nh r ?_;clear r;intro v us T1 a b;obtain rfl:=T1
  exact mK.cons a (b.append k)
section frame
variable {prog:aH} {w:av}
structure Fs where
 env:Env
 A:aX
 X:List aF
 I:aW->Prop
 mono: ∀h h',I h->mU h h'->I h'
 live: ∀h,I h->n7 X h
structure Ev (prog:aH) (w:av) (φ:Fs) (e:Expr) (p:PV):Prop where
 run: ∀s:aq,φ.I s.heap->aC (aI prog w) φ.A (bJ e φ.env) (λv s'=>bB s s'/\mP φ.X s'.heap p v) (λz z=>False) s
structure tG (prog:aH) (w:av) (φ:Fs) (pos:Pos) (es:List Expr) (ps:List PV):Prop where
 run: ∀s:aq,φ.I s.heap->aC (aI prog w) φ.A (spliced (fb pos (aE es φ.env))) (λvs s'=>bB s s'/\mK φ.X s'.heap ps vs) (λz z=>False) s
end frame
theorem mO (s:aq):bB s s:=⟨s.heap,s.toks,rfl,λz z e=>e⟩
theorem pg (s:aq) (n:Nat):bB s {s with toks:=n}:=⟨s.heap,n,rfl,λz z e=>e⟩
theorem mH (a:bB s s') (b:bB s' Vp):bB s Vp:=by
 obtain ⟨h,t,rfl,k⟩:=a
 obtain ⟨h',t',rfl,k'⟩:=b
 exact ⟨h',t',rfl,λx o e=>k' x o (k x o e)⟩
theorem mG (a:bB s s'):mU s.heap s'.heap:=by
 obtain ⟨h,t,rfl,k⟩:=a
 exact k
theorem mZ (s:aq) (o:Obj) (n:Nat):bB s {s with heap:=s.heap.push o,toks:=n}:=⟨_,_,rfl,λz z e=>aO _ e⟩
theorem m4 {α β:Type} {o:Option α} {f:α->Option β} {r:β} {G:Prop} (e:o.bind f=aa r) (k: ∀a,o=aa a->f a=aa r->G):G:=let ⟨a,p,q⟩:=bd.mp e;k a p q
theorem Cn {α:Type} {l:List α} (h:l.length=n+1): ∃a r,l=a::r/\r.length=n:=by
 cases l with
 |nil=>cases h
 |cons a r=>exact ⟨a,r,rfl,Nat.succ.inj h⟩
theorem vi {α:Type} {l:List α} (h:l.length=1): ∃a,l=[a]:=let ⟨a,r,e,h⟩:=Cn h;⟨a,by rw [e,aY.mp h]⟩
theorem FT {α:Type} {l:List α} (h:l.length=2): ∃a b,l=[a,b]:=let ⟨a,r,e,h⟩:=Cn h;let ⟨b,q⟩:=vi h;⟨a,b,by rw [e,q]⟩
theorem vm {α:Type} {l:List α} (h:l.length=3): ∃a b c,l=[a,b,c]:=let ⟨a,r,e,h⟩:=Cn h;let ⟨b,c,q⟩:=FT h;⟨a,b,c,by rw [e,q]⟩
theorem SU {α:Type} {l:List α} (h:l.length=5): ∃a b c d e,l=[a,b,c,d,e]:=let ⟨a,r,e,h⟩:=Cn h;let ⟨b,r,e',h⟩:=Cn h;let ⟨c,d,f,q⟩:=vm h;⟨a,b,c,d,f,by rw [e,e',q]⟩
section
variable {prog:aH} {w:av} {φ:Fs}
theorem Fs.mono' (φ:Fs) (i:φ.I s.heap) (k:bB s s'):φ.I s'.heap:=φ.mono _ _ i (mG k)
abbrev wB (prog:aH) (w:av) (A:aX) (X:List aF) (t:Sem ay) (p:PV) (s:aq):Prop:=
 aC (aI prog w) A t (λv s'=>bB s s'/\mP X s'.heap p v) (λz z=>False) s
theorem wB.then {f:ay->Sem ay} (h:wB prog w A X t p s)
  (k: ∀v s',bB s s'->mP X s'.heap p v->wB prog w A X (f v) q s'):
  aC (aI prog w) A t (λv s'=>aC (aI prog w) A (f v) (λv Vp=>bB s Vp/\mP X Vp.heap q v) (λz z=>False) s') (λz z=>False) s:=
 ab h (λv s' uu=>eA uu λa b=>ab (k v s' a b) (λz z uu=>eA uu λc d=>⟨mH a c,d⟩) λz z e=>e) λz z e=>e
def Ps (prog:aH) (w:av) (A:aX) (X:List aF) (t:ay->Sem ay) (p r:PV):Prop:=
 ∀(s:aq) (a:ay),n7 X s.heap->mP X s.heap p a->wB prog w A X (t a) r s
def n0 (prog:aH) (w:av) (A:aX) (X:List aF) (t:ay->ay->Sem ay) (p q r:PV):Prop:=
 ∀(s:aq) (a b:ay),n7 X s.heap->mP X s.heap p a->mP X s.heap q b->wB prog w A X (t a b) r s
theorem mJ (hl:Ev prog w φ l p) (hr:Ev prog w φ r q) (ho:n0 prog w φ.A φ.X (cf op) p q o):
  Ev prog w φ (.BinOp l op r pos) o:=.mk λs i=>
 j6 (ab (hl.run s i) (λa T0 uu=>eA uu λT2 T5=>ab (hr.run T0 (φ.mono' i T2)) (λb T3 uu=>eA uu λT4 Uh=>
  ab (ho T3 a b (φ.live _ (φ.mono' i (mH T2 T4))) (T5.keep (mG T4)) Uh) (λz z uu=>eA uu λUc Uj=>⟨mH T2 (mH T4 Uc),Uj⟩) λz z e=>e) λz z e=>e) λz z e=>e)
theorem rX (hx:Ev prog w φ x p) (ho:Ps prog w φ.A φ.X (unaryOp op) p o):Ev prog w φ (.UnaryOp op x pos) o:=.mk λs i=>
 wpAny_UnaryOp (wB.then (hx.run s i) λa T0 T2 T5=>ho T0 a (φ.live _ (φ.mono' i T2)) T5)
theorem uX (hl:Ev prog w φ l p) (hr:Ev prog w φ r q) (ho:n0 prog w φ.A φ.X (bP op) p q o)
  (hm:autoParam (lu op r=false) XX):
  Ev prog w φ (.Compare l [op] [r] pos) o:=.mk λs i=>
 wpAny_Compare1 (ab (hl.run s i) (λa T0 uu=>eA uu λT2 T5=>ab (hr.run T0 (φ.mono' i T2)) (λb T3 uu=>eA uu λT4 Uh=>
  ab (ho T3 a b (φ.live _ (φ.mono' i (mH T2 T4))) (T5.keep (mG T4)) Uh) (λz z uu=>eA uu λUc Uj=>⟨mH T2 (mH T4 Uc),Uj⟩) λz z e=>e) λz z e=>e) λz z e=>e) hm
theorem mN:Ev prog w φ (.Constant (.int i) k pos) (.int i):=.mk λs z=>wpAny_Constant_int ⟨pg _ _,by exact ⟨_,rfl⟩⟩
theorem JY:Ev prog w φ (.Constant (.str x) k pos) (.str x):=.mk λs z=>wpAny_Constant_str ⟨pg _ _,by exact ⟨_,rfl⟩⟩
theorem xe:Ev prog w φ (.Constant .none k pos) .none:=.mk λs z=>wpAny_Constant_none ⟨mO _,by rfl⟩
theorem sF:Ev prog w φ (.Constant (.bool b) k pos) (.bool b):=.mk λs z=>wpAny_Constant_bool ⟨mO _,by rfl⟩
theorem wv:Ev prog w φ (.Constant (.float x) k pos) (.float x):=.mk λs z=>λΓ p z=>⟨pg _ _,by exact ⟨_,rfl⟩⟩
theorem MC:Ev prog w φ (.Constant (.bytes x) k pos) (.bytes x.toArray):=.mk λs z=>λΓ p z=>⟨pg _ _,by exact ⟨_,rfl⟩⟩
def FU (env:Env) (h:aW) (x:Str) (v:ay):Prop:=
 (env.kindOf x=aa .local/\ ∃m,h.Ns env.locals m/\m x=aa v)\/
 (env.kindOf x=aa .cell/\ ∃c,env.cells.lookup x=aa c/\h.IsCell c (aa v))\/
 (env.kindOf x=aa .free/\(x==("__classdict__":Str))=false/\ ∃c,env.cells.lookup x=aa c/\h.IsCell c (aa v))
theorem va (hk:env.scope.kind= .function) (L:FU env s.heap x v) (h:Q v s):
  aC (aI prog w) A (loadName env x) Q E s:=by
 rcases L with ⟨a,m,b,c⟩|⟨a,c,b,d⟩|⟨a,n,c,b,d⟩
 ·exact wpAny_loadName_local hk a b c h
 ·exact wpAny_loadName_cell hk a b d h
 ·exact wpAny_loadName_free hk a b d h n
theorem Qs (hk:φ.env.scope.kind= .function) (hv: ∀h,φ.I h-> ∃v,FU φ.env h x v/\mP φ.X h p v) (hd:(x==("__debug__":Str))=false):
  Ev prog w φ (.Name x pos) p:=.mk λs i=>by
 refine mR (hv _ i) λv L r=> ?_
 exact jA (va hk L ⟨mO _,r⟩) hd
def BH (h:aW) (x:Str) (v:ay):Prop:= ∃mg,h.Ns bm mg/\mg x=aa v
def NB (h:aW) (x:Str) (v:ay):Prop:= ∃mg mb,h.Ns bm mg/\mg x=az/\h.Ns dh mb/\mb x=aa v
theorem Cz (hk:φ.env.scope.kind= .function) (hx:φ.env.kindOf x=aa .globalImplicit) (hgl:φ.env.globals=bm)
  (hg: ∀h,φ.I h->BH h x v) (hr: ∀h,mP φ.X h p v) (hd:(x==("__debug__":Str))=false):Ev prog w φ (.Name x pos) p:=.mk λs i=>by
 refine mR (hg _ i) λmg n e=> ?_
 exact Name_function_global hk hx (loadGlobal_global (hgl▸n) e ⟨mO _,hr _⟩) hd
theorem KI (hk:φ.env.scope.kind= .function) (hx:φ.env.kindOf x=aa .globalImplicit) (hgl:φ.env.globals=bm) (hbl:φ.env.builtins=dh)
  (hg: ∀h,φ.I h->NB h x v) (hd:(x==("__debug__":Str))=false):Ev prog w φ (.Name x pos) (.raw v):=.mk λs i=>by
 refine ni (hg _ i) λmg mb n e n' e'=> ?_
 exact Name_function_global hk hx (loadGlobal_builtin (hgl▸n) e (hbl▸n') e' ⟨mO _,by rfl⟩) hd
theorem mI:tG prog w φ pos [] []:=.mk λs z=>cF ⟨mO _,mK.nil⟩
theorem mz (h:Ev prog w φ e p) (hs:tG prog w φ pos es ps)
  (he:autoParam (aE (e::es) φ.env=(false,bJ e φ.env)::aE es φ.env) XZ):tG prog w φ pos (e::es) (p::ps):=.mk λs i=>
 cB (ab (h.run s i) (λv T0 uu=>eA uu λT2 T5=>ab (hs.run T0 (φ.mono' i T2)) (λvs T3 uu=>eA uu λT4 Uh=>⟨mH T2 T4,mK.cons (T5.keep (mG T4)) Uh⟩) λz z e=>e) λz z e=>e) he
theorem oP (l:n7 X h):h.objs.size∉X:=λm=>let ⟨_,e⟩:=l _ m;absurd (aR e) (bY _)
theorem ou (hs:tG prog w φ pos es ps) (hz:ps.length<=bn):Ev prog w φ (.Tuple es k pos) (.tup ps):=.mk λs i=>
 wpAny_Tuple (ab (hs.run s i) (λvs T0 uu=>eA uu λT2 T5=>⟨by rw [T5.len];exact hz,mH T2 (mZ _ _ _),by
  exact ⟨_,vs,rfl,oP (φ.live _ (φ.mono' i T2)),⟨_,au _ rfl,rfl,_,rfl⟩,T5.keep (mG (mZ T0 _ T0.toks))⟩⟩) λz z e=>e)
theorem pX (hs:tG prog w φ pos es ps) (hz:ps.length<=bn):Ev prog w φ (.List es pos) (.list ps):=.mk λs i=>
 jB (ab (hs.run s i) (λvs T0 uu=>eA uu λT2 T5=>⟨by rw [T5.len];exact hz,mH T2 (mZ _ _ _),by
  exact ⟨_,vs,rfl,oP (φ.live _ (φ.mono' i T2)),⟨_,au _ rfl,rfl,_,rfl⟩,T5.keep (mG (mZ T0 _ T0.toks))⟩⟩) λz z e=>e)
structure Tr (prog:aH) (w:av) (φ:Fs) (e:Expr) (b:Bool):Prop where
 run: ∀s:aq,φ.I s.heap->aC (aI prog w) φ.A (isTrue e φ.env (bJ e φ.env)) (λc s'=>bB s s'/\c=b) (λz z=>False) s
def tO (prog:aH) (w:av) (A:aX) (X:List aF) (p:PV) (b:Bool):Prop:=
 ∀(s:aq) (v:ay),mP X s.heap p v->aC (aI prog w) A (truthy v) (λc s'=>bB s s'/\c=b) (λz z=>False) s
theorem mY (hl:Ev prog w φ l p) (hr:Ev prog w φ r q) (ho:n0 prog w φ.A φ.X (bP op) p q (.bool b))
  (hm:autoParam (lu op r=false) XX):Tr prog w φ (.Compare l [op] [r] pos) b:=.mk λs i=>
 wpAny_isTrue_Compare1 (ab (hl.run s i) (λa T0 uu=>eA uu λT2 T5=>ab (hr.run T0 (φ.mono' i T2)) (λc T3 uu=>eA uu λT4 Uh=>
  ab (ho T3 a c (φ.live _ (φ.mono' i (mH T2 T4))) (T5.keep (mG T4)) Uh) (λv Ua uu=>eA uu λUc Uj=>by
   subst Uj
   exact fO ⟨mH T2 (mH T4 Uc),rfl⟩) λz z e=>e) λz z e=>e) λz z e=>e) hm
theorem ry (h:Ev prog w φ e p) (t:tO prog w φ.A φ.X p b)
  (he:autoParam (isTrue e φ.env (bJ e φ.env)=(do let v <-bJ e φ.env;iv e.pos;gU [v] (truthy v))) XZ):Tr prog w φ e b:=.mk λs i=>
 jD (ab (h.run s i) (λv T0 uu=>eA uu λT2 T5=>ab (t T0 v T5) (λc T3 uu=>eA uu λT4 e=>⟨mH T2 T4,e⟩) λz z e=>e) λz z e=>e) he
theorem uZ (h:Tr prog w φ x b):Tr prog w φ (.UnaryOp .Not x pos) (!b):=.mk λs i=>
 wpAny_isTrue_Not (ab (h.run s i) (λc s' uu=>eA uu λk e=>⟨k,by rw [e]⟩) λz z e=>e)
structure xZ (prog:aH) (w:av) (φ:Fs) (op:BoolOp) (es:List Expr) (b:Bool):Prop where
 run: ∀s:aq,φ.I s.heap->aC (aI prog w) φ.A (allTrue op es φ.env) (λc s'=>bB s s'/\c=b) (λz z=>False) s
theorem Bi (h:xZ prog w φ op es b):Tr prog w φ (.BoolOp op es pos) b:=.mk λs i=>wpAny_isTrue_BoolOp (h.run s i)
theorem Db:xZ prog w φ .And [] ai:=.mk λs z=>wpAny_allTrue_And_nil ⟨mO _,rfl⟩
theorem L5:xZ prog w φ .Or [] false:=.mk λs z=>wpAny_allTrue_Or_nil ⟨mO _,rfl⟩
theorem rh (hx:Tr prog w φ x a) (hs:a=ai->xZ prog w φ .And es b):xZ prog w φ .And (x::es) (a&&b):=.mk λs i=>
 wpAny_allTrue_And_cons (ab (hx.run s i) (λc T0 uu=>eA uu λk e=>by
  subst e
  cases c with
  |false=>exact ⟨k,rfl⟩
  |true=>exact ab ((hs rfl).run T0 (φ.mono' i k)) (λc T3 uu=>eA uu λk' e'=>⟨mH k k',by rw [e'];rfl⟩) λz z e=>e) λz z e=>e)
theorem C3 (hx:Tr prog w φ x a) (hs:a=false->xZ prog w φ .Or es b):xZ prog w φ .Or (x::es) (a||b):=.mk λs i=>
 iP (ab (hx.run s i) (λc T0 uu=>eA uu λk e=>by
  subst e
  cases c with
  |true=>exact ⟨k,rfl⟩
  |false=>exact ab ((hs rfl).run T0 (φ.mono' i k)) (λc T3 uu=>eA uu λk' e'=>⟨mH k k',by rw [e'];rfl⟩) λz z e=>e) λz z e=>e)
theorem DV (ht:Tr prog w φ t c) (hb:c=ai->Ev prog w φ b p) (ho:c=false->Ev prog w φ o p):Ev prog w φ (.IfExp t b o pos) p:=.mk λs i=>
 wpAny_IfExp (ab (ht.run s i) (λd T0 uu=>eA uu λk e=>by
  subst e
  cases d with
  |true=>exact ab ((hb rfl).run T0 (φ.mono' i k)) (λc T3 uu=>eA uu λk' e'=>⟨mH k k',e'⟩) λz z e=>e
  |false=>exact ab ((ho rfl).run T0 (φ.mono' i k)) (λc T3 uu=>eA uu λk' e'=>⟨mH k k',e'⟩) λz z e=>e) λz z e=>e)
theorem Cq (hx:Ev prog w φ x p) (t:tO prog w φ.A φ.X p a) (hy:a=ai->Ev prog w φ y q) (hr:r=if a then q else p):
  Ev prog w φ (.BoolOp .And [x,y] pos) r:=.mk λs i=>
 wpAny_And2 (ab (hx.run s i) (λv T0 uu=>eA uu λT2 T5=>ab (t T0 v T5) (λc T3 uu=>eA uu λT4 e=>by
  subst e
  cases c with
  |true=>subst hr;exact ab ((hy rfl).run T3 (φ.mono' i (mH T2 T4))) (λz z uu=>eA uu λUc Uj=>⟨mH T2 (mH T4 Uc),Uj⟩) λz z e=>e
  |false=>subst hr;exact ⟨mH T2 T4,T5.keep (mG T4)⟩) λz z e=>e) λz z e=>e)
def nB (s s':aq):Prop:= ∃h' tk,s'={s with heap:=h',toks:=tk}
theorem nB.trans (a:nB s s') (b:nB s' Vp):nB s Vp:=by
 obtain ⟨h,t,rfl⟩:=a;obtain ⟨h',t',rfl⟩:=b;exact ⟨h',t',rfl⟩
theorem nB.rfl' (s:aq):nB s s:=⟨_,_,rfl⟩
theorem nB.of (k:bB s s'):nB s s':=let ⟨h,t,e,_⟩:=k;⟨h,t,e⟩
structure SW (prog:aH) (w:av) (I:aW->Prop) (env:Env) (A:aX) (b:List eh) (J:hF->aW->Prop):Prop where
 run: ∀s:aq,I s.heap->aC (aI prog w) A (iB b env) (λfl s'=>nB s s'/\J fl s'.heap) (λz z=>False) s
abbrev mT (prog:aH) (w:av) (env:Env) (A:aX) (I:aW->Prop) (b:List eh) (J:hF->aW->Prop):Prop:=SW prog w I env A b J
section
variable {env:Env} {A:aX} {I I':aW->Prop} {J:hF->aW->Prop}
theorem sJ (h: ∀g,I g->J .next g):mT prog w env A I [] J:=.mk λs i=>iG ⟨nB.rfl' s,h _ i⟩
theorem qT {st:eh} (h: ∀s:aq,I s.heap->aC (aI prog w) A (exec st env) (λfl s'=>nB s s'/\match fl with|.next=>I' s'.heap|f=>J f s'.heap) (λz z=>False) s)
  (hb:mT prog w env A I' b J):mT prog w env A I (st::b) J:=.mk λs i=>by
 rw [ci]
 refine ae (ab (h s i) (λfl T0 uu=>eA uu λe j=> ?_) λz z e=>e)
 cases fl with
 |next=>exact ab (hb.run T0 j) (λfl' T3 uu=>eA uu λe' j'=>⟨e.trans e',j'⟩) λz z e=>e
 |brk=>exact aj ⟨e,j⟩
 |cont=>exact aj ⟨e,j⟩
 |ret v=>exact aj ⟨e,j⟩
theorem E0: ∀(b:List eh) (p:Pos) (s:aq),
  iX M Γ (iB b env) (λfl p' s'=>match fl with|.next=>iX M Γ (iB c env) Q E p' s'|f=>Q f p' s') E p s->iX M Γ (iB (b++c) env) Q E p s
 |[],_,_,h=>by rw [execs_nil] at h;simpa using h
 |st::b,p,s,h=>by
  rw [bx,ci,di]
  rw [ci,di] at h
  refine cg M Γ _ (λfl V5 T0 Ub=> ?_) (λz z z e=>e) _ _ h
  cases fl with
  |next=>exact E0 b V5 T0 Ub
  |brk=>simpa using Ub
  |cont=>simpa using Ub
  |ret v=>simpa using Ub
theorem uF: ∀(b:List eh) (p:Pos) (s:aq),
  iX M Γ (iB (b++c) env) Q E p s->iX M Γ (iB b env) (λfl p' s'=>iX M Γ (match fl with|.next=>iB c env|f=>bG f) Q E p' s') E p s
 |[],_,_,h=>by rw [execs_nil];simpa using h
 |st::b,p,s,h=>by
  rw [bx,ci,di] at h
  rw [ci,di]
  refine cg M Γ _ (λfl V5 T0 Ub=> ?_) (λz z z e=>e) _ _ h
  cases fl with
  |next=>exact uF b V5 T0 Ub
  |brk=>simpa using Ub
  |cont=>simpa using Ub
  |ret v=>simpa using Ub
theorem GG (h:mT prog w env A I b (λfl g=>match fl with|.next=>I' g|f=>J f g)) (hc:mT prog w env A I' c J):mT prog w env A I (b++c) J:=.mk λs i Γ p hΓ=>by
 refine E0 b p s (cg _ Γ _ (λfl V5 T0 Ub=> ?_) (λz z z e=>e) _ _ (h.run s i Γ p hΓ))
 refine eA Ub λe j=> ?_
 cases fl with
 |next=>exact cg _ Γ _ (λfl' UO T3 ⟨e',j'⟩=>⟨e.trans e',j'⟩) (λz z z e=>e) _ _ (hc.run T0 j Γ V5 hΓ)
 |brk=>exact ⟨e,j⟩
 |cont=>exact ⟨e,j⟩
 |ret v=>exact ⟨e,j⟩
theorem sX {J':hF->aW->Prop} (h:mT prog w env A I' b J) (hi: ∀g,I g->I' g) (hj: ∀f g,J f g->J' f g):mT prog w env A I b J':=.mk λs i=>
 ab (h.run s (hi _ i)) (λfl s' uu=>eA uu λe j=>⟨e,hj _ _ j⟩) λz z e=>e
end
end
abbrev mX:=List (Str×PV)
structure Sc where
 env:Env
 A:aX
 g:aW
 own:List aF
 X0:List aF
noncomputable def Sc.X (c:Sc):List aF:=c.own++c.X0
noncomputable def Sc.at (c:Sc) (g:aW):Sc:={c with g:=g}
structure In (c:Sc) (σ:mX) (Λ:List (aF×List PV)) (h:aW):Prop where
 keep:mU c.g h
 fresh: ∀a∈c.own,c.g.get? a=az
 live:n7 c.own h
 liveX:n7 c.X0 h
 locOwn:c.env.locals∈c.own
 loc: ∃m,h.Ns c.env.locals m/\ ∀x p,c.env.kindOf x=aa .local->σ.lookup x=aa p-> ∃v,m x=aa v/\mP c.X h p v
 cel: ∀x p,(c.env.kindOf x=aa .cell\/(c.env.kindOf x=aa .free/\(x==("__classdict__":Str))=false))->σ.lookup x=aa p-> ∃a v,c.env.cells.lookup x=aa a/\h.IsCell a (aa v)/\mP c.X h p v
 cob: ∀x a,c.env.cells.lookup x=aa a-> ∃v,h.IsCell a v
 kinds: ∀x p,σ.lookup x=aa p->c.env.kindOf x=aa .local\/c.env.kindOf x=aa .cell\/(c.env.kindOf x=aa .free/\(x==("__classdict__":Str))=false)
 lists: ∀q∈Λ,q.1∈c.own/\ ∃vs,h.PlainList q.1 vs.toArray/\mK c.X h q.2 vs
theorem In.liveAll (i:In c σ Λ h):n7 c.X h:=λa ha=>by
 rcases ar.mp ha with q|q
 ·exact i.live a q
 ·exact i.liveX a q
theorem sM {h:aW} (p:h.PlainList a vs) (n:h.Ns b m):a≠b:=λe=>by
 obtain ⟨_,q⟩:=p
 obtain ⟨o,es,ep,q',d,_⟩:=n
 subst e
 rw [q] at q';obtain rfl:=am q';cases d
theorem qG {h:aW} (p:h.PlainList a vs) (n:h.IsCell b m):a≠b:=λe=>by
 obtain ⟨_,q⟩:=p
 obtain ⟨o,q',d⟩:=n
 subst e
 rw [q] at q';obtain rfl:=am q';cases d
theorem vy {h:aW} (p:h.IsCell a v) (n:h.Ns b m):a≠b:=λe=>by
 obtain ⟨o,q,d⟩:=p
 obtain ⟨o',es,ep,q',d',_⟩:=n
 subst e
 rw [q] at q';obtain rfl:=am q';rw [d] at d';cases d'
theorem In.gen {Vh X':List aF} (i:In c σ Λ h) (kg:mU g' h') (fr: ∀a∈Vh,g'.get? a=az) (lv:n7 Vh h') (lx:n7 X' h') (lo:c.env.locals∈Vh) (ns: ∀m,h.Ns c.env.locals m->h'.Ns c.env.locals m)
  (tr: ∀b o,b≠c.env.locals->h.get? b=aa o->(∃v,o.data= .cell v)->h'.get? b=aa o) (k:Mv c.X (Vh++X') h h')
  (li: ∀q∈Λ',q.1∈Vh/\ ∃vs,h'.PlainList q.1 vs.toArray/\mK (Vh++X') h' q.2 vs):In ⟨c.env,A',g',Vh,X'⟩ σ Λ' h':=by
 refine mR i.loc λm n r=> ?_
 have ce: ∀{a v},h.IsCell a v->h'.IsCell a v:=λ⟨o,e,d⟩=>⟨o,tr _ o (vy ⟨o,e,d⟩ n) e ⟨_,d⟩,d⟩
 exact ⟨kg,fr,lv,lx,lo,⟨m,ns m n,λx p a b=>let ⟨v,e,q⟩:=r x p a b;⟨v,e,q.gen k⟩⟩,λx p a b=>let ⟨a,v,e,q,r⟩:=i.cel x p a b;⟨a,v,e,ce q,r.gen k⟩,
  λx a e=>let ⟨v,q⟩:=i.cob x a e;⟨v,ce q⟩,i.kinds,li⟩
theorem In.li {Vh Y:List aF} (i:In c σ Λ h) (ow: ∀a∈c.own,a∈Vh) (t: ∀b o,b≠c.env.locals->b∈c.own->h.get? b=aa o->h'.get? b=aa o) (k:Mv c.X Y h h'): ∀q∈Λ,q.1∈Vh/\ ∃vs,h'.PlainList q.1 vs.toArray/\mK Y h' q.2 vs:=λq hq=>
 let ⟨a,vs,b,r⟩:=i.lists q hq;⟨ow _ a,vs,b.at λo e=>t _ o (let ⟨_,n,_⟩:=i.loc;sM b n) a e,r.gen k⟩
theorem mU.mv (k:mU h h'):Mv X X h h':=λa o ha e z=>⟨ha,k a o e⟩
theorem In.mono (i:In c σ Λ h) (k:mU h h'):In c σ Λ h':=
 i.gen (i.keep.trans k) i.fresh (i.live.keep k) (i.liveX.keep k) i.locOwn (λm n=>n.at' λo e=>k _ _ e) (λb o z e z=>k b o e) k.mv (i.li (λz h=>h) (λb o z z e=>k b o e) k.mv)
theorem In.weak (i:In c σ Λ h) (k: ∀x p,σ'.lookup x=aa p->σ.lookup x=aa p):In c σ' Λ h where
 keep:=i.keep
 fresh:=i.fresh
 live:=i.live
 liveX:=i.liveX
 locOwn:=i.locOwn
 loc:=let ⟨m,n,r⟩:=i.loc;⟨m,n,λx p a b=>r x p a (k x p b)⟩
 cel:=λx p a b=>i.cel x p a (k x p b)
 cob:=i.cob
 kinds:=λx p b=>i.kinds x p (k x p b)
 lists:=i.lists
theorem MV {σ τ:mX} (h:(σ.all λq=>(τ.lookup q.1).isNone)=ai): ∀x p,σ.lookup x=aa p->(τ++σ).lookup x=aa p:=λx p e=>by
 rw [dX]
 have:τ.lookup x=az:=by
  induction σ with
  |nil=>simp at e
  |cons q σ ih=>
   obtain ⟨y,q⟩:=q
   simp only [iL,bI] at h
   by_cases hy:(x==y)=ai
   ·rw [beq_iff_eq.mp hy];simpa using h.1
   ·simp [aD,hy] at e;exact ih h.2 e
 rw [this,e];rfl
def fs (c:Sc) (σ:mX) (Λ:List (aF×List PV)):Fs:=⟨c.env,c.A,c.X,In c σ Λ,λz z i k=>i.mono k,λz i=>i.liveAll⟩
theorem In.look (i:In c σ Λ h) (e:σ.lookup x=aa p): ∃v,FU c.env h x v/\mP c.X h p v:=by
 rcases i.kinds x p e with k|k|k
 ·refine mR i.loc λm n r=> ?_
  refine mR (r x p k e) λv a b=> ?_
  exact ⟨v,.inl ⟨k,m,n,a⟩,b⟩
 ·refine nh (i.cel x p (.inl k) e) λa v q1 q2 q3=> ?_
  exact ⟨v,.inr (.inl ⟨k,a,q1,q2⟩),q3⟩
 ·refine nh (i.cel x p (.inr k) e) λa v q1 q2 q3=> ?_
  exact ⟨v,.inr (.inr ⟨k.1,k.2,a,q1,q2⟩),q3⟩
section
variable {prog:aH} {w:av} {c:Sc} {σ:mX} {Λ:List (aF×List PV)}
theorem nw (e:σ.lookup x=aa p) (hk:autoParam (c.env.scope.kind= .function) XZ) (hd:autoParam ((x==("__debug__":Str))=false) XQ):Ev prog w (fs c σ Λ) (.Name x pos) p:=
 Qs hk (λh i=>In.look i e) hd
theorem BZ {x:Str} {p:PV} {l:mX}:aD x ((x,p)::l)=aa p:=by simp [aD]
theorem B9 {x y:Str} (h:(x==y)=false) {p:Option PV} {q:PV} {l:mX} (k:aD x l=p):aD x ((y,q)::l)=p:=by simp [aD,h,k]
theorem oH.of_same (hs:cL a h h') (ha:a∈X):oH X h h':=λb o hb e=>by
 rw [hs.2 b (λq=>hb (q▸ha))];exact e
theorem In.store (i:In c σ Λ h) (hx:c.env.kindOf x=aa .local) (n:h.Ns c.env.locals m)
  (hm: ∀x p,c.env.kindOf x=aa .local->σ.lookup x=aa p-> ∃v,m x=aa v/\mP c.X h p v)
  (n':h'.Ns c.env.locals (λy=>if y=x then aa v else m y)) (hs:cL c.env.locals h h') (r:mP c.X h p v):In c ((x,p)::σ) Λ h':=by
 have kx:oH c.X h h':=oH.of_same hs (ax _ i.locOwn)
 have UA: ∀y q,aD y ((x,p)::σ)=aa q->(y=x/\q=p)\/(y≠x/\σ.lookup y=aa q):=λy q e=>by
  by_cases hy:y=x
  ·subst hy;simp [aD] at e;exact .inl ⟨rfl,e.symm⟩
  ·have:(y==x)=false:=by simpa using hy
   simp [aD,this] at e;exact .inr ⟨hy,e⟩
 have lv: ∀a,(∃o,h.get? a=aa o)-> ∃o,h'.get? a=aa o:=λa uu=>eE uu λo e=>by
  by_cases ha':a=c.env.locals
  ·subst ha';refine wD n' λo z z e z=> ?_;exact ⟨o,e⟩
  ·exact ⟨o,(hs.2 a ha').trans e⟩
 refine ⟨λb o e=> ?_,i.fresh,λa ha=>lv a (i.live a ha),λa ha=>lv a (i.liveX a ha),i.locOwn,⟨_,n',λy q hk e=> ?_⟩,λy q hk e=> ?_,λy a e=>let ⟨u,q⟩:=i.cob y a e;⟨u,q.sameBut hs (vy q n)⟩,λy q e=> ?_,λq hq=> ?_⟩
 ·rw [hs.2 b (λq=>by have:=i.fresh _ i.locOwn;rw [<-q,e] at this;exact tD this)];exact i.keep _ _ e
 ·rcases UA y q e with ⟨rfl,rfl⟩|⟨hy,e⟩
  ·exact ⟨v,by simp,r.keepX kx⟩
  ·refine mR (hm y q hk e) λu e' r'=> ?_
   exact ⟨u,by simp [hy,e'],r'.keepX kx⟩
 ·rcases UA y q e with ⟨rfl,rfl⟩|⟨hy,e⟩
  ·rw [hx] at hk;rcases hk with hk|⟨hk,_⟩<;>cases hk
  ·refine nh (i.cel y q hk e) λa u q1 q2 q3=> ?_
   exact ⟨a,u,q1,q2.sameBut hs (vy q2 n),q3.keepX kx⟩
 ·rcases UA y q e with ⟨rfl,rfl⟩|⟨hy,e⟩
  ·exact .inl hx
  ·exact i.kinds y q e
 ·refine oV (i.lists q hq) λa vs b r'=> ?_
  exact ⟨a,vs,b.at λo e=>by rw [hs.2 _ (sM b n)];exact e,r'.keepX kx⟩
structure n8 (c:Sc) (x:Str) (a:aF):Prop where
 kind:c.env.kindOf x=aa .cell
 at':c.env.cells.lookup x=aa a
 own:a∈c.own
 only: ∀y,c.env.cells.lookup y=aa a->y=x
def sA (c:Sc) (x:Str):Prop:=c.env.kindOf x=aa .local\/ ∃a,n8 c x a
theorem In.storeC (i:In c σ Λ h) (C:n8 c x a)
  (n':h'.IsCell a (aa v)) (hs:cL a h h') (r:mP c.X h p v):In c ((x,p)::σ) Λ h':=by
 have kx:oH c.X h h':=oH.of_same hs (ax _ C.own)
 obtain ⟨v₀,hc⟩:=i.cob x a C.at'
 have UA: ∀y q,aD y ((x,p)::σ)=aa q->(y=x/\q=p)\/(y≠x/\σ.lookup y=aa q):=λy q e=>by
  by_cases hy:y=x
  ·subst hy;simp [aD] at e;exact .inl ⟨rfl,e.symm⟩
  ·have:(y==x)=false:=by simpa using hy
   simp [aD,this] at e;exact .inr ⟨hy,e⟩
 have lv: ∀b,(∃o,h.get? b=aa o)-> ∃o,h'.get? b=aa o:=λb uu=>eE uu λo e=>by
  by_cases ha':b=a
  ·subst ha';refine mR n' λo e j=> ?_;exact ⟨o,e⟩
  ·exact ⟨o,(hs.2 b ha').trans e⟩
 refine ⟨λb o e=> ?_,i.fresh,λa ha=>lv a (i.live a ha),λa ha=>lv a (i.liveX a ha),i.locOwn,?_,λy q hk e=> ?_,λy b e=> ?_,λy q e=> ?_,λq hq=> ?_⟩
 ·rw [hs.2 b (λq=>by have:=i.fresh _ C.own;rw [<-q,e] at this;exact tD this)];exact i.keep _ _ e
 ·refine mR i.loc λm n hm=> ?_
  refine ⟨m,n.at' λo e=>by rw [hs.2 _ (vy hc n).symm];exact e,λy q hk e=> ?_⟩
  rcases UA y q e with ⟨rfl,rfl⟩|⟨hy,e⟩
  ·rw [C.kind] at hk;cases hk
  ·refine mR (hm y q hk e) λu e' r'=> ?_
   exact ⟨u,e',r'.keepX kx⟩
 ·rcases UA y q e with ⟨rfl,rfl⟩|⟨hy,e⟩
  ·exact ⟨a,v,C.at',n',r.keepX kx⟩
  ·refine nh (i.cel y q hk e) λb u q1 q2 q3=> ?_
   exact ⟨b,u,q1,q2.sameBut hs (λz=>hy (C.only y (z▸q1))),q3.keepX kx⟩
 ·by_cases hb:b=a
  ·subst hb;exact ⟨_,n'⟩
  ·let ⟨u,q⟩:=i.cob y b e;exact ⟨u,q.sameBut hs hb⟩
 ·rcases UA y q e with ⟨rfl,rfl⟩|⟨hy,e⟩
  ·exact .inr (.inl C.kind)
  ·exact i.kinds y q e
 ·refine oV (i.lists q hq) λb vs q1 r'=> ?_
  exact ⟨b,vs,q1.at λo e=>by rw [hs.2 _ (qG q1 hc)];exact e,r'.keepX kx⟩
theorem rC (i:In c σ Λ s.heap) (hx:sA c x) (r:mP c.X s.heap p v) (hk:c.env.scope.kind= .function):
  aC (aI prog w) A (storeName c.env x v) (λz s'=>nB s s'/\In c ((x,p)::σ) Λ s'.heap/\oH c.own s.heap s'.heap) (λz z=>False) s:=by
 rcases hx with hx|⟨a,C⟩
 ·refine mR i.loc λm n hm=> ?_
  exact iO hx n (λh' n' hs=>⟨⟨_,_,rfl⟩,i.store hx n hm n' hs r,oH.of_same hs i.locOwn⟩) (by rw [hk];rfl)
 ·refine eE (i.cob x a C.at') λv₀ hc=> ?_
  exact wpAny_storeName_cell hk C.kind C.at' hc λh' n' hs=>⟨⟨_,_,rfl⟩,i.storeC C n' hs r,oH.of_same hs C.own⟩
theorem tY (i:In c σ Λ s.heap) (hx:sA c x) (r:mP c.X s.heap p v) (hk:c.env.scope.kind= .function):
  aC (aI prog w) A (storeName c.env x v) (λz s'=>nB s s'/\In c ((x,p)::σ) Λ s'.heap) (λz z=>False) s:=
 ab (rC i hx r hk) (λz z uu=>rQ uu λa b z=>⟨a,b⟩) λz z e=>e
theorem mM (he:Ev prog w (fs c σ Λ) e p) (hb:mT prog w c.env c.A (In c ((x,p)::σ) Λ) b J)
  (hx:autoParam (sA c x) XJ) (hk:autoParam (c.env.scope.kind= .function) XZ) (hs:autoParam (cJ e (aa (.Name x px)) pos.line c.env=bG false) XZ):
  mT prog w c.env c.A (In c σ Λ) (.Assign [.Name x px] e pos::b) J:=
 qT (I':=In c ((x,p)::σ) Λ) (λs i=>cN (ab (he.run s i) (λv T0 uu=>eA uu λT2 T5=>
  ab (tY (i.mono (mG T2)) hx T5 hk) (λz T3 uu=>eA uu λUD T7=>⟨(nB.of T2).trans UD,T7⟩) λz z e=>e) λz z e=>e) hs) hb
theorem m9 (ht:Tr prog w (fs c σ Λ) t d)
  (hb:d=ai->mT prog w c.env c.A (In c σ Λ) (b++rest) J) (ho:d=false->mT prog w c.env c.A (In c σ Λ) (o++rest) J):
  mT prog w c.env c.A (In c σ Λ) (.If t b o pos::rest) J:=.mk λs i Γ p hΓ=>by
 rw [ci,di,exec_If]
 simp only [di,ja]
 refine cg _ Γ _ (λe UO T3 ⟨k,q⟩=> ?_) (λz z z e=>e) _ _ (ht.run s i Γ _ hΓ)
 subst q
 cases e with
 |true=>exact uF b UO T3 (cg _ Γ _ (λfl z Ua ⟨e,j⟩=>⟨(nB.of k).trans e,j⟩) (λz z z e=>e) _ _ ((hb rfl).run T3 (i.mono (mG k)) Γ UO hΓ))
 |false=>exact uF o UO T3 (cg _ Γ _ (λfl z Ua ⟨e,j⟩=>⟨(nB.of k).trans e,j⟩) (λz z z e=>e) _ _ ((ho rfl).run T3 (i.mono (mG k)) Γ UO hΓ))
noncomputable def BO (fl:hF):ay:=match fl with|.ret v=>v|_=>.none
def ux (g:aW) (X:List aF) (p:PV):hF->aW->Prop:=λfl h=>mU g h/\mP X h p (BO fl)
theorem G4 (he:Ev prog w (fs c σ Λ) e p) (hg:mU g c.g:=by exact mU.rfl) (hY: ∀a∈Y,a∈c.X:=by exact λa h=>h):
  mT prog w c.env c.A (In c σ Λ) (.Return (aa e) pos::b) (λfl h=>(∃v,fl= .ret v)/\ux g Y p fl h):=
 .mk λs i=>by
  rw [ci]
  refine ae (jK (ab (he.run s i) (λv T0 uu=>eA uu λT2 T5=> ?_) λz z e=>e))
  exact aj ⟨nB.of T2,⟨v,rfl⟩,hg.trans (i.mono (mG T2)).keep,T5.sub λb hb z=>hY b hb⟩
end
theorem CA (t:Sem α) (Q:α->Pos->aq->Prop) (p:Pos) (s:aq) (h:iX M Γ t Q E p s):iX M Γ t (λa p' s'=>s.toks<=s'.toks/\Q a p' s') E p s:=
 cg M Γ t (λz z z x=>x) (λz z z x=>x.2) _ _ (Sem.wp_toks M Γ s.toks t Q E p s (aN _) h)
theorem pR {t:Sem α} {Q:α->aq->Prop} (h:aC M A t (λa s'=>s.toks<=s'.toks->Q a s') E s):aC M A t Q E s:=λΓ p hΓ=>
 cg M Γ t (λa p' s' x=>x.2 x.1) (λz z z e=>e) _ _ (CA t _ p s (h Γ p hΓ))
section
variable {prog:aH} {w:av} {A:aX} {E:ay->aq->Prop} {s:aq}
def tf (A:aX) (prog:aH) (w:av) (f:ay) (s:aq):Prop:= ∀(Q:Keeper->aq->Prop) (E:ay->aq->Prop),(∀k,Q k s)->aC (aI prog w) A (keeperOf f) Q E s
theorem rj {id:String}:tf A prog w (.builtin id) s:=λQ E h=>aj (h _)
theorem uh {id:String}:tf A prog w (.type id) s:=λQ E h=>aj (h _)
theorem rB (ho:s.heap.get? a=aa o) (hd:o.data= .func fd):tf A prog w (.ref a) s:=λQ E h=>by
 refine ae (wpAny_load ho ?_)
 rw [hd]
 exact aj (h _)
theorem nI
  (h:aC (aI prog w) A (evalArgs f ai args Ve) (λa T0=>tf A prog w f T0/\aC (aI prog w) A (ft f (first++a.pos) a.kw) Q E T0) E s):
  aC (aI prog w) A (gI pos f first args Ve) Q E s:=by
 refine ae (bL (ab h (λa T0 uu=>eA uu λhk Ub=>ae (eD (ae (hk _ _ λk=> ?_)))) λz z e=>e))
 have tail: ∀{t:Sem ay},aC (aI prog w) A t Q E T0->aC (aI prog w) A (t >>= λr=>gU [r] point >>= λz=>bG r) Q E T0:=
  λht=>ae (ab ht (λr T3 hr=>ae (bL (wpAny_point (aj hr)))) λz z x=>x)
 have mk: ∀{m:ay},aC (aI prog w) A (callMarked m f (first++a.pos) a.kw) Q E T0:=λ{m} Γ p hΓ=>by
  unfold callMarked;rw [Sem.wp_keep];exact Ub Γ p hΓ
 have op: ∀{l:List ay},aC (aI prog w) A (operate l (ft f (first++a.pos) a.kw)) Q E T0:=λ{l} Γ p hΓ=>by
  rw [Sem.wp_operate];exact Ub Γ p hΓ
 dsimp only
 split<;>first|exact tail mk|exact tail op|exact tail Ub|(split<;>first|exact tail Ub|exact tail mk)
theorem qp (h:aC (aI prog w) A (spliced (fb pos (aE (e::es) env))) (λvs T0=>Q ⟨vs,[]⟩ T0) E s)
  (he:aE (e::es) env=(false,bJ e env)::aE es env):aC (aI prog w) A (evalArgs f ai (fb pos (aE (e::es) env)) []) Q E s:=by
 rw [he] at h ⊢
 exact evalArgs_kw (by rfl) (ab h (λvs T0 Ub=>wpAny_evalAll_nil Ub) λz z e=>e)
theorem wp (h:Q ⟨[],[]⟩ s):aC (aI prog w) A (evalArgs f ai [] []) Q E s:=
 evalArgs_kw_nil (by rfl) (wpAny_evalAll_nil h)
end
section
variable {prog:aH} {w:av} {c:Sc} {σ:mX} {Λ:List (aF×List PV)}
def HF (prog:aH) (w:av) (A:aX) (X:List aF) (I:aW->Prop) (f:ay) (ps:List PV) (ks:List (Str×PV)) (p:PV):Prop:=
 ∀(s:aq) (vs us:List ay),I s.heap->n7 X s.heap->mK X s.heap ps vs->mK X s.heap (ks.map (·.2)) us->wB prog w A X (ft f vs ((ks.map (·.1)).zip us)) p s
def pV (prog:aH) (w:av) (A:aX) (X:List aF) (I:aW->Prop) (f:ay) (ps:List PV) (p:PV):Prop:=
 ∀(s:aq) (vs:List ay),I s.heap->n7 X s.heap->mK X s.heap ps vs->wB prog w A X (ft f vs []) p s
theorem Cg {id:Str} (hf:Ev prog w (fs c σ Λ) (.Name id np) (.raw f)) (ha:tG prog w (fs c σ Λ) pos (e::es) ps)
  (hk: ∀s:aq,In c σ Λ s.heap->tf c.A prog w f s) (hc:pV prog w c.A c.X (In c σ Λ) f ps p)
  (he:autoParam (aE (e::es) c.env=(false,bJ e c.env)::aE es c.env) XZ):Ev prog w (fs c σ Λ) (.Call (.Name id np) (e::es) [] pos) p:=.mk λs i=>by
 refine cm (ab (hf.run s i) (λv T0 uu=>eA uu λT2 T5=> ?_) λz z e=>e)
 subst T5
 refine nI (qp (ab (ha.run T0 (i.mono (mG T2))) (λvs T3 uu=>eA uu λT4 Uh=> ?_) λz z e=>e) he)
 have T7:=i.mono (mG (mH T2 T4))
 exact ⟨hk _ T7,ab (hc T3 vs T7 T7.liveAll Uh) (λz z uu=>eA uu λUc Uj=>⟨mH T2 (mH T4 Uc),Uj⟩) λz z e=>e⟩
theorem Aw: ∀{ns:List Str} {ps:List PV} {vs:List ay},mK X h ps vs-> ∀(x:Str) (p:PV),(ns.zip ps).reverse.lookup x=aa p-> ∃v,(ns.zip vs).reverse.lookup x=aa v/\mP X h p v
 |[],_,_,_,_,_,e=>by simp at e
 |_::_,[],_,_,_,_,e=>by simp at e
 |n::ns,q::ps,vs,r,x,p,e=>by
  refine nh r ?_;clear r;intro v us T1 a b;obtain rfl:=T1
  simp only [iU,fi,dX] at e ⊢
  cases h1:(ns.zip ps).reverse.lookup x with
  |some q'=>
   rw [h1] at e;simp at e;subst e
   refine mR (Aw b x _ h1) λu e' r'=> ?_
   exact ⟨u,by rw [e'];rfl,r'⟩
  |none=>
   rw [h1] at e
   have:(ns.zip us).reverse.lookup x=az:=by
    clear e
    have hl:=b.len
    clear a b
    induction ns generalizing ps us with
    |nil=>simp
    |cons m ns ih=>
     cases ps with
     |nil=>simp at hl;subst hl;rfl
     |cons p' ps=>
      cases us with
      |nil=>simp at hl
      |cons u us=>
       simp only [iU,fi,dX,Option.or_eq_none_iff] at h1 ⊢
       refine ⟨ih (ps:=ps) (us:=us) h1.1 (by simpa using hl),?_⟩
       have:=h1.2
       by_cases hm:(x==m)=ai
       ·simp [aD,hm] at this
       ·simp [aD,hm]
   rw [this]
   by_cases hm:(x==n)=ai
   ·simp [aD,hm] at e;subst e;exact ⟨v,by simp [aD,hm],a⟩
   ·simp [aD,hm] at e
end
theorem Bz (hx:k x=aa .local): ∀(Ur:List (Str×ay)) (m:Str->Option ay),bindL k Ur m x=(Ur.reverse.lookup x).or (m x)
 |[],m=>by simp [bindL]
 |(n,v)::r,m=>by
  unfold bindL
  rw [Bz hx r]
  simp only [fi,dX]
  cases (r.reverse.lookup x) with
  |some _=>simp
  |none=>
   by_cases hn:x=n
   ·subst hn;simp [hx,aD]
   ·have:(x==n)=false:=by simpa using hn
    split<;>simp [aD,this,hn]
theorem Bo (hx:k x≠aa .local): ∀(Ur:List (Str×ay)) (m:Str->Option ay),bindC k Ur m x=(Ur.reverse.lookup x).or (m x)
 |[],m=>by simp [bindC]
 |(n,v)::r,m=>by
  unfold bindC
  rw [Bo hx r]
  simp only [fi,dX]
  cases (r.reverse.lookup x) with
  |some _=>simp
  |none=>
   by_cases hn:x=n
   ·subst hn;simp [hx,aD]
   ·have:(x==n)=false:=by simpa using hn
    split<;>simp [aD,this,hn]
structure xW (h:aW) (a:aF) (fd:bz) (body:List eh):Prop where
 at': ∃o,h.get? a=aa o/\o.data= .func fd
 lim:h.NoLimit
 code:h.CodeRec fd.code fd.qualname
 body:fd.body= .stmts body
noncomputable def ql (ns:List Str) (ps:List PV):mX:=(ns.zip ps).reverse
noncomputable def wI (cs:List (Str×aF)):List aF:=cs.filterMap λz=>cs.lookup z.1
theorem pB:b∈wI cs↔ ∃n,cs.lookup n=aa b:=by
 unfold wI
 rw [List.mem_filterMap]
 constructor
 ·rintro ⟨z,_,e⟩;exact ⟨z.1,e⟩
 ·rintro ⟨n,e⟩;exact ⟨(n,b),mem_of_lookup e,e⟩
def GY (fd:bz) (L:aF):List aF:=wI (bu (L+1) fd.scope.names [])
def mV (fd:bz) (a:aF) (A:aX) (X M:List aF) (g:aW) (L:aF):Sc:=⟨bf fd L a,A.deeper (bf fd L a),g,L::(GY fd L++M),X⟩
theorem CS (e:(ql ns ps).lookup x=aa p):x∈ns:=by
 have: ∀(l:List (Str×PV)),l.lookup x=aa p-> ∃q∈l,q.1=x:=by
  intro l
  induction l with
  |nil=>intro e;simp at e
  |cons q l ih=>
   intro e
   obtain ⟨y,q⟩:=q
   by_cases hy:(x==y)=ai
   ·exact ⟨_,.head _,(beq_iff_eq.mp hy).symm⟩
   ·simp [aD,hy] at e
    refine mR (ih e) λq' m e'=> ?_
    exact ⟨q',.tail _ m,e'⟩
 obtain ⟨q,m,rfl⟩:=this _ e
 exact (List.of_mem_zip (List.mem_reverse.mp m)).1
theorem nF (h:aW):h.get? h.objs.size=az:=by
 cases e:h.get? h.objs.size with
 |none=>rfl
 |some o=>exact absurd (aR e) (bY _)
theorem n6 {h:aW} (ha:h.objs.size<=a):h.get? a=az:=by
 cases e:h.get? a with
 |none=>rfl
 |some o=>exact absurd (aR e) (i7.mpr ha)
theorem ph (e:h.get? a=az):(hideAll h l).get? a=az:=by
 cases q:(hideAll h l).get? a with
 |none=>rfl
 |some o=>rw [bU _ q] at e;exact tD e
structure Ar (fd:bz) (ns:List Str):Prop where
 ns: ∀x∈ns,fd.scope.names.lookup x=aa .local\/(fd.scope.names.lookup x=aa .cell/\ ∀b,((bu b fd.scope.names []).lookup x).isSome=ai)
 kind:fd.scope.kind= .function
 co:fd.scope.isCoroutine=false
 gen:fd.scope.isGenerator=false
 cl:fd.closure=[]
 gl:fd.globals=bm
 bl:fd.builtins=dh
noncomputable def Sw (l:List (Str×kD)) (x:Str):Bool:=match l.lookup x with
 |some .local=>ai
 |some .cell=>((bu 0 l []).lookup x).isSome
 |_=>false
def JI (fd:bz) (ns:List Str):Bool:=ns.all (Sw fd.scope.names)&&(match fd.scope.kind with
 |.function=> !(fd.scope.isCoroutine||fd.scope.isGenerator)&&(fd.closure.isEmpty&&(bN fd.globals bm&&bN fd.builtins dh))
 |_=>false)
theorem yW (x:Str): ∀(l:List (Str×kD)) {p q:List (Str×aF)} (a b:Nat),(p.lookup x).isSome=(q.lookup x).isSome->((bu a l p).lookup x).isSome=((bu b l q).lookup x).isSome
 |[],_,_,_,_,h=>h
 |(n,k)::r,p,q,a,b,h=>by
  unfold bu
  split
  ·refine yW x r _ _ ?_
   cases e:x==n<;>simp [aD,e,h]
  ·exact yW x r a b h
theorem v6 (h:JI fd ns=ai):Ar fd ns:=by
 have h:=aP.mp h
 have h2:=h.2
 split at h2
 ·next e=>
  have h2:=aP.mp h2
  have h3:=aP.mp h2.2
  have h4:=aP.mp h3.2
  have h1:=Bool.or_eq_false_iff.mp (Bool.not_eq_true' _▸h2.1)
  refine ⟨λx hx=> ?_,e,h1.1,h1.2,List.isEmpty_iff.mp h3.1,bO h4.1,bO h4.2⟩
  have q:=bq.mp h.1 x hx
  unfold Sw at q
  split at q
  ·next e=>exact .inl e
  ·next e=>exact .inr ⟨e,λb=>(yW x _ b 0 rfl).trans q⟩
  ·exact oJ q
 ·exact oJ h2
theorem wR {K:aq->Prop}
  (d:xW s.heap a fd body) (UG:A.depth<dC) (lx:n7 X s.heap) (lM:n7 M s.heap) (hM: ∀b∈M,b∈X)
  (Ul:aC (aI prog w) A.in1 (ey fd ⟨vs,kw⟩) (λUr T0=>bB s T0/\K T0/\ ∃us,Ur=ns.zip us/\mK X T0.heap qs us) (λe s'=>R (.error e) s') s)
  (hΛ: ∀q∈Λ,q.1∈M/\ ∃vs,s.heap.PlainList q.1 vs.toArray/\mK X s.heap q.2 vs)
  (F:Ar fd ns)
  (h: ∀L T0 T3,bB s T0->K T0->bB T0 T3->T0.toks<=T3.toks->T0.heap.get? L=az->In (mV fd a A X M (hideAll T0.heap M) L) (ql ns qs) Λ T3.heap->aC (aI prog w) (A.deeper (bf fd L a)) (iB body (bf fd L a)) (λfl s'=>R (.ok (.ret (BO fl))) s')
    (λe s'=>aC (aI prog w) (A.deeper (bf fd L a)) (leaving (bf fd L a) e) (λy Vp=>R (.error e) Vp) (λe' Vp=>R (.error e') Vp) s') T3):
  gw (aI prog w) A (.call (.ref a) ⟨vs,kw⟩) R s:=by
 refine mR d.at' λo ho hdat=> ?_
 refine codeAny_call_function UG ho hdat F.co F.gen d.body d.code ?_
 rw [F.cl]
 refine ab Ul (λUr T0 uu=>HJ uu λT2 hK us e T5=> ?_) λy y e=>e
 subst e
 have UX: ∀x∈ns.zip us,fd.scope.names.lookup x.1=aa .local\/(fd.scope.names.lookup x.1=aa .cell/\((bu (T0.heap.objs.size+1) fd.scope.names []).lookup x.1).isSome=ai):=λx hx=>by
  exact (F.ns _ (List.of_mem_zip hx).1).imp id λq=>⟨q.1,q.2 _⟩
 refine pR (wpAny_newFunctionEnv_cells F.kind UX λenv he s' C tk=> ?_)
 subst he
 have T4:bB T0 s':=C.done
 have k:=mH T2 T4
 refine ⟨(d.lim.keeps (mG k)),codeAny_func ?_⟩
 have UU: ∀b,T0.heap.objs.size<=b->T0.heap.get? b=az:=λb hb=>n6 hb
 have kind: ∀x,(bf fd T0.heap.objs.size a).kindOf x=fd.scope.names.lookup x:=λx=>rfl
 have U3: ∀b∈GY fd T0.heap.objs.size,T0.heap.objs.size<b:=λb hb=>by
  obtain ⟨n,e⟩:=pB.mp hb
  exact C.above n b (mem_of_lookup e)
 have sub: ∀b∈(mV fd a A X M (hideAll s.heap M) T0.heap.objs.size).X,(∃o,T0.heap.get? b=aa o)->b∈X:=λb hb uu=>eE uu λo e=>by
  rcases ar.mp hb with q|q
  ·rcases ao.mp q with q|q
   ·subst q;rw [nF] at e;exact nE e
   ·rcases ar.mp q with q|q
    ·rw [n6 (kL (U3 _ q))] at e;exact nE e
    ·exact hM _ q
  ·exact q
 have k':=mG k
 refine h T0.heap.objs.size T0 s' T2 hK T4 tk (UU _ (aN _)) {
  keep:=λb o e=>mG T4 b o (bU _ e)
  fresh:=λb hb=>by
   rcases ao.mp hb with q|q
   ·subst q;exact ph (UU _ (aN _))
   ·rcases ar.mp q with q|q
    ·exact ph (UU _ (kL (U3 _ q)))
    ·exact dK _ q
  live:=λb hb=>by
   rcases ao.mp hb with q|q
   ·subst q;refine wD C.toInCall.ns λo y y e y=> ?_;exact ⟨o,e⟩
   ·rcases ar.mp q with q|q
    ·obtain ⟨n,e⟩:=pB.mp q
     refine mR (C.cell n b e) λo e y=> ?_
     exact ⟨o,e⟩
    ·exact (lM.keep k') _ q
  liveX:=lx.keep k'
  locOwn:=.head _
  loc:=⟨_,C.toInCall.ns,λx p hx e=>by
   refine mR (Aw T5 x p e) λv e' r'=> ?_
   exact ⟨v,(Bz hx (ns.zip us) λy=>az).trans (by rw [e'];rfl),mP.keep (mG T4) (r'.sub sub)⟩⟩
  cel:=λx p hx e=>by
   refine mR (Aw T5 x p e) λv e' r'=> ?_
   have nl:(bf fd T0.heap.objs.size a).kindOf x≠aa .local:=λq=>by rcases hx with hx|⟨hx,_⟩<;>exact absurd (q.symm.trans hx) (by decide)
   rcases F.ns x (CS e) with q|⟨q,z⟩
   ·exact absurd ((kind x).trans q) nl
   ·refine eE (jP.mp (z (T0.heap.objs.size+1))) λb hb=> ?_
    refine ⟨b,v,hb,?_,mP.keep (mG T4) (r'.sub sub)⟩
    have e2:=(Bo nl (ns.zip us) λz=>az).trans (show _=aa v by rw [e'];rfl)
    have q2:s'.heap.IsCell b (bindC (bf fd T0.heap.objs.size a).kindOf (ns.zip us) (λz=>az) x):=C.cell x b hb
    rw [e2] at q2
    exact q2
  cob:=λx b e=>⟨_,C.cell x b e⟩
  kinds:=λx p e=>by
   rcases F.ns x (CS e) with q|⟨q,_⟩
   ·exact .inl q
   ·exact .inr (.inl q)
  lists:=λq hq=>by
   refine oV (hΛ q hq) λhm vs p r=> ?_
   exact ⟨.tail _ (aM _ hm),vs,p.at λo e=>k' _ _ e,mK.keep k' (r.sub λb hb uu=>eE uu λo e=>sub b hb ⟨o,mG T2 _ _ e⟩)⟩}
theorem I2 (k:mU h h') (i:In (mV fd a A X M (hideAll h' M) L) σ Λ Wu):In (mV fd a A X M (hideAll h M) L) σ Λ Wu:=
 have kk:mU (hideAll h M) (hideAll h' M):=λb o e=>bS _ (k b o (bU _ e)) λq=>absurd ((dK M q).symm.trans e) (λz=>nomatch z)
 ⟨kk.trans i.keep,λb hb=>Dd kk (i.fresh b hb),i.live,i.liveX,i.locOwn,i.loc,i.cel,i.cob,i.kinds,i.lists⟩
theorem xv
  (d:xW s.heap a fd body) (UG:A.depth<dC) (lx:n7 X s.heap) (lM:n7 M s.heap) (hM: ∀b∈M,b∈X)
  (Ul:aC (aI prog w) A.in1 (ey fd ⟨vs,kw⟩) (λUr T0=>bB s T0/\ ∃us,Ur=ns.zip us/\mK X T0.heap qs us) (λe s'=>R (.error e) s') s)
  (hΛ: ∀q∈Λ,q.1∈M/\ ∃vs,s.heap.PlainList q.1 vs.toArray/\mK X s.heap q.2 vs) (F:Ar fd ns)
  (h: ∀L T3,bB s T3->s.toks<=T3.toks->s.heap.get? L=az->In (mV fd a A X M (hideAll s.heap M) L) (ql ns qs) Λ T3.heap->aC (aI prog w) (A.deeper (bf fd L a)) (iB body (bf fd L a)) (λfl s'=>R (.ok (.ret (BO fl))) s')
    (λe s'=>aC (aI prog w) (A.deeper (bf fd L a)) (leaving (bf fd L a) e) (λz Vp=>R (.error e) Vp) (λe' Vp=>R (.error e') Vp) s') T3):
  gw (aI prog w) A (.call (.ref a) ⟨vs,kw⟩) R s:=
 wR (K:=λT0=>s.toks<=T0.toks) d UG lx lM hM (pR (ab Ul (λz z uu tk=>eA uu λk r=>⟨k,tk,r⟩) λz z e=>e)) hΛ F λL T0 T3 T2 Vb T4 Vn hL i=>
  h L T3 (mH T2 T4) (ch Vb Vn) (Dd (mG T2) hL) (I2 (mG T2) i)
theorem FC (ns:List Str) {ks:List (Str×PV)}
  (hd: ∀h,I h->xW h a fd body) (UG:A.depth<dC)
  (Ul: ∀(s:aq) (vs us:List ay),I s.heap->mK X s.heap ps vs->mK X s.heap (ks.map (·.2)) us->aC (aI prog w) A.in1 (ey fd ⟨vs,(ks.map (·.1)).zip us⟩) (λUr T0=>bB s T0/\ ∃us,Ur=ns.zip us/\mK X T0.heap qs us) (λz z=>False) s)
  (F:Ar fd ns) (h: ∀g L,I g->n7 X g->mT prog w (bf fd L a) (A.deeper (bf fd L a)) (In (mV fd a A X [] g L) (ql ns qs) []) body (ux g X p)):HF prog w A X I (.ref a) ps ks p:=by
 intro s vs us i lx r r'
 refine eo (xv (M:=[]) (ns:=ns) (qs:=qs) (Λ:=[]) (hd _ i) UG lx (λz h=>nomatch h) (λz h=>nomatch h) (ab (Ul s vs us i r r') (λz z h=>h) λz z e=>e.elim) (λz h=>nomatch h) F λL T3 k z z T7=> ?_)
 refine ab ((h s.heap L i lx).run T3 T7) (λfl s' ⟨⟨h',tk,e⟩,kk,rr⟩=> ?_) λz z e=>e.elim
 subst e
 refine oU k ?_;clear k;intro Uu Vn T1 T4;obtain rfl:=T1
 exact ⟨⟨h',tk,rfl,kk⟩,rr⟩
theorem Ha (ns:List Str)
  (hd: ∀h,I h->xW h a fd body) (UG:A.depth<dC)
  (Ul: ∀(s:aq) (vs:List ay),I s.heap->mK X s.heap ps vs->aC (aI prog w) A.in1 (ey fd ⟨vs,[]⟩) (λUr T0=>bB s T0/\ ∃us,Ur=ns.zip us/\mK X T0.heap qs us) (λz z=>False) s)
  (F:Ar fd ns) (h: ∀g L,I g->n7 X g->mT prog w (bf fd L a) (A.deeper (bf fd L a)) (In (mV fd a A X [] g L) (ql ns qs) []) body (ux g X p)):pV prog w A X I (.ref a) ps p:=
 λs vs i lx r=>FC (ks:=[]) ns hd UG (λs vs us i r z=>Ul s vs i r) F h s vs [] i lx r mK.nil
theorem yd {ns:List Str} (r:mK X s.heap ps vs)
  (hb: ∀vs:List ay,vs.length=ps.length->ey fd ⟨vs,[]⟩=bG (ns.zip vs)):
  aC (aI prog w) A (ey fd ⟨vs,[]⟩) (λUr T0=>bB s T0/\ ∃us,Ur=ns.zip us/\mK X T0.heap ps us) (λz z=>False) s:=by
 rw [hb vs r.len]
 exact aj ⟨mO _,vs,rfl,r⟩
noncomputable abbrev S (l:List Nat):Str:=⟨l.toArray⟩
theorem mW (l:List Nat):(S l).length=l.length:=by simp [fJ]
theorem uW (a b:List Nat):S a++S b=S (a++b):=by
 show Str.append _ _=_
 unfold Str.append;simp
section
variable {prog:aH} {w:av} {A:aX} {X:List aF}
theorem qz (e:i=j):bB s {s with toks:=s.toks+1}/\mP X ({s with toks:=s.toks+1}:aq).heap (.int j) (.int i t):=⟨pg _ _,by exact ⟨_,by rw [e]⟩⟩
theorem vd (e:x=y):bB s {s with toks:=s.toks+1}/\mP X ({s with toks:=s.toks+1}:aq).heap (.str y) (.str x t):=⟨pg _ _,by exact ⟨_,by rw [e]⟩⟩
theorem nV:n0 prog w A X (cf .Add) (.int a) (.int b) (.int (a+b)):=λs x y z r q=>by
 obtain ⟨t,rfl⟩:=r;obtain ⟨u,rfl⟩:=q
 exact P.add_int (qz rfl)
theorem nK:n0 prog w A X (cf .Sub) (.int a) (.int b) (.int (a - b)):=λs x y z r q=>by
 obtain ⟨t,rfl⟩:=r;obtain ⟨u,rfl⟩:=q
 exact P.sub_int (qz rfl)
theorem Bc (h:IntMulOk a b):n0 prog w A X (cf .Mult) (.int a) (.int b) (.int (a*b)):=λs x y z r q=>by
 obtain ⟨t,rfl⟩:=r;obtain ⟨u,rfl⟩:=q
 exact P.mul_int (qz rfl) h
theorem oZ (h:b≠0) (hb:b.natAbs<1073741824):n0 prog w A X (cf .FloorDiv) (.int a) (.int b) (.int (a.fdiv b)):=λs x y z r q=>by
 obtain ⟨t,rfl⟩:=r;obtain ⟨u,rfl⟩:=q
 exact floordiv_int h (qz rfl) (.inl (jY hb))
theorem oq (h:b≠0):n0 prog w A X (cf .Mod) (.int a) (.int b) (.int (a.fmod b)):=λs x y z r q=>by
 obtain ⟨t,rfl⟩:=r;obtain ⟨u,rfl⟩:=q
 exact mod_int' h (qz rfl)
theorem HM (hn:0<=n) (hsz:(eu a:Int)*n<=2^27):n0 prog w A X (cf .Pow) (.int a) (.int n) (.int (a^n.toNat)):=λs x y z r q=>by
 refine eE r ?_;clear r;intro t T1;obtain rfl:=T1;refine eE q ?_;clear q;intro u T1;obtain rfl:=T1
 exact pow_int hn hsz (qz rfl)
theorem oI:Ps prog w A X (unaryOp .USub) (.int a) (.int (-a)):=λs x z r=>by
 obtain ⟨t,rfl⟩:=r
 exact P.neg_int (qz rfl)
theorem rF:n0 prog w A X (bP .Lt) (.int a) (.int b) (.bool (decide (a<b))):=λs x y z r q=>by
 obtain ⟨t,rfl⟩:=r;refine eE q ?_;clear q;intro u T1;obtain rfl:=T1
 exact P.lt_int ⟨mO _,by rfl⟩
theorem yG:n0 prog w A X (bP .LtE) (.int a) (.int b) (.bool (decide (a<=b))):=λs x y z r q=>by
 obtain ⟨t,rfl⟩:=r;refine eE q ?_;clear q;intro u T1;obtain rfl:=T1
 exact P.le_int ⟨mO _,by rfl⟩
theorem zs:n0 prog w A X (bP .Gt) (.int a) (.int b) (.bool (decide (a>b))):=λs x y z r q=>by
 obtain ⟨t,rfl⟩:=r;refine eE q ?_;clear q;intro u T1;obtain rfl:=T1
 exact P.gt_int ⟨mO _,by rfl⟩
theorem pY:n0 prog w A X (bP .Eq) (.int a) (.int b) (.bool (a==b)):=λs x y z r q=>by
 obtain ⟨t,rfl⟩:=r;obtain ⟨u,rfl⟩:=q
 exact P.eq_int ⟨mO _,by rfl⟩
theorem ox (h:a.length+b.length<=bn):n0 prog w A X (cf .Add) (.str (S a)) (.str (S b)) (.str (S (a++b))):=λs x y _ r q=>by
 refine eE r ?_;clear r;intro t T1;obtain rfl:=T1;refine eE q ?_;clear q;intro u T1;obtain rfl:=T1
 refine P.add_str ?_
 split
 ·rename_i e
  have:a=[]:=by rw [mW] at e;exact aY.mp (by simpa using e)
  subst this
  exact ⟨mO _,by exact ⟨_,rfl⟩⟩
 ·split
  ·rename_i e
   have:b=[]:=by rw [mW] at e;exact aY.mp (by simpa using e)
   subst this
   exact ⟨mO _,by exact ⟨t,by rw [bK]⟩⟩
  ·refine ⟨?_,vd (uW a b)⟩
   rw [uW,mW,af];exact h
theorem sG (h:a.length+b.length<=bn):n0 prog w A X (inplaceOp .Add) (.str (S a)) (.str (S b)) (.str (S (a++b))):=λs x y _ r q=>by
 refine eE r ?_;clear r;intro t T1;obtain rfl:=T1;refine eE q ?_;clear q;intro u T1;obtain rfl:=T1
 refine P.iadd_str ?_
 split
 ·rename_i e
  have:a=[]:=by rw [mW] at e;exact aY.mp (by simpa using e)
  subst this
  exact ⟨mO _,by exact ⟨_,rfl⟩⟩
 ·split
  ·rename_i e
   have:b=[]:=by rw [mW] at e;exact aY.mp (by simpa using e)
   subst this
   exact ⟨mO _,by exact ⟨t,by rw [bK]⟩⟩
  ·refine ⟨?_,vd (uW a b)⟩
   rw [uW,mW,af];exact h
theorem sI:n0 prog w A X (inplaceOp .Add) (.int a) (.int b) (.int (a+b)):=λs x y z r q=>by
 obtain ⟨t,rfl⟩:=r;obtain ⟨u,rfl⟩:=q
 exact P.iadd_int (qz rfl)
theorem sV:n0 prog w A X (bP .Eq) (.str (S a)) (.str (S b)) (.bool (a==b)):=λs x y z r q=>by
 obtain ⟨t,rfl⟩:=r;refine eE q ?_;clear q;intro u T1;obtain rfl:=T1
 exact P.eq_str ⟨mO _,by rfl⟩
theorem t4:n0 prog w A X (bP .NotEq) (.str (S a)) (.str (S b)) (.bool (a !=b)):=λs x y z r q=>by
 obtain ⟨t,rfl⟩:=r;refine eE q ?_;clear q;intro u T1;obtain rfl:=T1
 exact P.ne_str ⟨mO _,by rfl⟩
theorem BU (Uw:Expr) (o i:ay): ∃l,subscripted Uw false o i=operate l (getItem o i):=by
 cases Uw with
 |Slice a b c=>cases c<;>exact ⟨_,rfl⟩
 |_=>exact ⟨_,rfl⟩
theorem vG {T id:String} (hT:s.TypeIs o T) (hl:fu (.type T) "__getitem__"=bG (aa (.builtin id)))
  (hg:aC (aI prog w) A (getItem o i) Q E s):aC (aI prog w) A (dS value Uw o i) Q E s:=
 let ⟨_,e⟩:=BU Uw o i;tail_any hT hl hg e
theorem m5 (h0:0<=k) (hp:ps[k.toNat]? =aa p) (hk:k<2^63):n0 prog w A X (dS value Uw) (.list ps) (.int k) p:=λs x y z r q=>by
 refine ni r ?_;clear r;intro a vs T1 ha hl rs;obtain rfl:=T1;obtain ⟨u,rfl⟩:=q
 refine mR (rs.get hp) λv e rv=> ?_
 exact vG hl.typeIs fP.lookup (wpAny_getItem_list hl h0 hk (by simpa using e) ⟨mO _,rv⟩)
theorem Jy (h0:0<=k) (h:k.toNat<n):jd k n=aa k.toNat:=by
 unfold jd
 rw [if_neg (Int.not_lt.mpr h0)]
 exact if_pos (aP.mpr ⟨decide_eq_true h0,decide_eq_true ((Int.toNat_lt h0).mp h)⟩)
theorem rI (h0:0<=k) (hp:ps[k.toNat]? =aa p) (hk:k<2^63):n0 prog w A X (dS value Uw) (.tup ps) (.int k) p:=λs x y z r q=>by
 refine ni r ?_;clear r;intro a vs T1 ha hl rs;obtain rfl:=T1;obtain ⟨u,rfl⟩:=q
 refine mR (rs.get hp) λv e rv=> ?_
 have Ue:k.toNat<ps.length:=(aT.mp hp).1
 have hsz:=rs.len
 refine vG hl.typeIs slot_tuple_getitem.lookup (getItem_tuple hl (by exact (my (.i (.L xJ xB) (.i (.B xB xA) (.L (.g xA) xB))) [] [_,_]) h0 hk) hk (j:=k.toNat) ?_ (by simpa using e) ⟨mO _,rv⟩)
 exact Jy h0 (by rw [bo,hsz];exact Ue)
theorem qN (h0:0<=k) (hp:l[k.toNat]? =aa x) (hk:k<2^63):n0 prog w A X (dS value Uw) (.str (S l)) (.int k) (.str (S [x])):=λs a y z r q=>by
 obtain ⟨t,rfl⟩:=r;obtain ⟨u,rfl⟩:=q
 have Ue:k.toNat<l.length:=(aT.mp hp).1
 refine vG (dR _ _ _) PySem.F.slot_str_getitem.lookup (P.getItem_str ?_ (c:=x) ?_ (vd rfl))
 ·simp;exact (my (.i (.L xJ xA) (.i (.B xA xS) (.a (.L (.g xS) xA) (.B xA xS)))) [] [_]) h0 hk
 ·have:jd k (S l).length=aa k.toNat:=by
   rw [mW];exact Jy h0 Ue
  rw [this];simpa using hp
theorem Hg:pV prog w A X I (.builtin "ord") [.str (S [c])] (.int c):=λs vs z z r=>by
 refine nh r ?_;clear r;intro v us T1 a b;obtain rfl:=T1
 subst b;refine eE a ?_;clear a;intro t T1;obtain rfl:=T1
 exact P.ord_of_char (qz rfl)
theorem Ca {c:Nat} (h:c<=1114111):pV prog w A X I (.builtin "chr") [.int c] (.str (S [c])):=λs vs z z r=>by
 refine nh r ?_;clear r;intro v us T1 a b;obtain rfl:=T1
 subst b;refine eE a ?_;clear a;intro t T1;obtain rfl:=T1
 exact P.chr_of_int (by simp;exact (my (.i (.l xA (.c 1114111)) (.L (.k xA) (.c 1114111))) [_]) h) (vd (by rfl))
end
section
variable {prog:aH} {w:av} {φ:Fs}
theorem nq (hv:Ev prog w φ value p) (hs:Ev prog w φ Uw q) (ho:n0 prog w φ.A φ.X (dS value Uw) p q r):Ev prog w φ (.Subscript value Uw pos) r:=.mk λs i=>
 Subscript_ (ab (hv.run s i) (λa T0 uu=>eA uu λT2 T5=>ab (hs.run T0 (φ.mono' i T2)) (λb T3 uu=>eA uu λT4 Uh=>
  ab (ho T3 a b (φ.live _ (φ.mono' i (mH T2 T4))) (T5.keep (mG T4)) Uh) (λz z uu=>eA uu λUc Uj=>⟨mH T2 (mH T4 Uc),Uj⟩) λz z e=>e) λz z e=>e) λz z e=>e)
end
noncomputable def Sc.addX (c:Sc) (is:List aF):Sc:={c with X0:=is++c.X0}
theorem In.reg (i:In c σ Λ h) (hk:mU g' h) (hf: ∀a∈c.own,g'.get? a=az):In (c.at g') σ Λ h:=
 ⟨hk,hf,i.live,i.liveX,i.locOwn,i.loc,i.cel,i.cob,i.kinds,i.lists⟩
theorem In.unreg (i:In (c.at g') σ Λ h) (hg:mU c.g g') (hf: ∀a∈c.own,c.g.get? a=az):In c σ Λ h:=
 ⟨hg.trans i.keep,hf,i.live,i.liveX,i.locOwn,i.loc,i.cel,i.cob,i.kinds,i.lists⟩
theorem wF (i:In c σ Λ h):mU c.g (hideAll h c.own):=λb o e=>
 bS _ (i.keep b o e) λq=>by rw [i.fresh b q] at e;exact nE e
theorem In.hide (i:In c σ Λ h):In (c.at (hideAll h c.own)) σ Λ h:=
 i.reg (λb o e=>bU _ e) λa ha=>dK _ ha
def NM (c:Sc) (is:List aF) (h:aW):Prop:= ∀a∈is,a∈c.X0/\a∉c.own/\c.g.get? a=az/\ ∀o,h.get? a=aa o-> ∀v,o.data≠ .cell v
theorem In.turn (i:In c σ Λ h) (hI:NM c is h) (k:oH is h h') (lv:n7 is h'):In c σ Λ h':=by
 have kX:Mv c.X c.X h h':=λb o nb e z=>⟨nb,k b o (λq=>nb (aM _ (hI b q).1)) e⟩
 have own: ∀b∈c.own,∀o,h.get? b=aa o->h'.get? b=aa o:=λb hb o e=>k b o (λq=>(hI b q).2.1 hb) e
 exact i.gen (λb o e=>k b o (λq=>nomatch (hI b q).2.2.1.symm.trans e) (i.keep b o e)) i.fresh (λa ha=>let ⟨o,e⟩:=i.live a ha;⟨o,own a ha o e⟩)
  (λa ha=>(gy (a∈is)).elim (lv a) λhb=>let ⟨o,e⟩:=i.liveX a ha;⟨o,k _ _ hb e⟩) i.locOwn (λm n=>n.at' λo e=>own _ i.locOwn o e)
  (λb o z e q2=>k _ _ (λq=>eE q2 λv q2=>(hI _ q).2.2.2 o e v q2) e) kX (i.li (λz h=>h) (λb o z hb e=>own b hb o e) kX)
theorem AE {c:Sc}:a∈(c.addX is).X↔a∈is++c.X:=by
 simp only [Sc.addX,Sc.X,ar]
 constructor
 ·rintro (h|h|h)
  ·exact .inr (.inl h)
  ·exact .inl h
  ·exact .inr (.inr h)
 ·rintro (h|h|h)
  ·exact .inr (.inl h)
  ·exact .inl h
  ·exact .inr (.inr h)
theorem In.turnUn (i:In (c.addX is) σ Λ h) (hI:NM (c.addX is) is h) (hX: ∀a∈is,a∉c.X0) (k:oH is h h'):In c σ Λ h':=by
 have kX:Mv (c.addX is).X c.X h h':=λb o nb e z=>⟨λq=>nb (AE.mpr (aM _ q)),k b o (λq=>nb (aM _ (hI b q).1)) e⟩
 have own: ∀b∈c.own,∀o,h.get? b=aa o->h'.get? b=aa o:=λb hb o e=>k b o (λq=>(hI b q).2.1 hb) e
 exact i.gen (λb o e=>k b o (λq=>nomatch (hI b q).2.2.1.symm.trans e) (i.keep b o e)) i.fresh (λa ha=>let ⟨o,e⟩:=i.live a ha;⟨o,own a ha o e⟩)
  (λa ha=>let ⟨o,e⟩:=i.liveX a (aM _ ha);⟨o,k _ _ (λq=>hX a q ha) e⟩) i.locOwn (λm n=>n.at' λo e=>own _ i.locOwn o e)
  (λb o z e q2=>k _ _ (λq=>eE q2 λv q2=>(hI _ q).2.2.2 o e v q2) e) kX (i.li (λz h=>h) (λb o z hb e=>own b hb o e) kX)
theorem In.apart (i:In c σ Λ h) (k:mU h h') (hn: ∀a∈is,h.get? a=az) (lv:n7 is h'):In (c.addX is) σ Λ h':=
 have kX:Mv c.X (c.addX is).X h h':=λb o nb e z=>⟨λq=>(ar.mp (AE.mp q)).elim (λq=>nomatch (hn b q).symm.trans e) nb,k b o e⟩
 i.gen (i.keep.trans k) i.fresh (i.live.keep k) (λa ha=>(ar.mp ha).elim (lv a) (i.liveX.keep k a)) i.locOwn (λm n=>n.at' λo e=>k _ _ e) (λb o z e z=>k b o e) kX (i.li (λz h=>h) (λb o z z e=>k b o e) kX)
structure PQ (prog:aH) (w:av) (A:aX) (X:List aF) (UE:aW) (T8:Expr) (I:aF) (is:List aF) (Ug:List PV) (St:Nat->aW->Prop):Prop where
 item: ∀i p (s:aq) (Y:List aF),Ug[i]? =aa p->St i s.heap->n7 Y s.heap->(∀b∈Y,(∃o,UE.get? b=aa o)->b∈X)->aC (aI prog w) A (lW (.ref I)) (λr T0=> ∃v,r=aa v/\aC (aI prog w) A (cS T8 (.ref I) v)
  (λz T3=>nB s T3/\oH is s.heap T3.heap/\St (i+1) T3.heap/\mP Y T3.heap p v) (λz z=>False) T0) (λz z=>False) s
 done: ∀(s:aq),St Ug.length s.heap->aC (aI prog w) A (lW (.ref I)) (λr T0=>r=az/\nB s T0/\oH is s.heap T0.heap) (λz z=>False) s
 frame: ∀i h h',St i h->mU UE h'->(∀a∈is,∀o,h.get? a=aa o->h'.get? a=aa o)->St i h'
 keep: ∀i h,St i h->mU UE h
 self: ∀i (s:aq) (Q:ay->aq->Prop) (E:ay->aq->Prop),St i s.heap->Q (.ref I) s->aC (aI prog w) A (pyIter (.ref I)) Q E s
 obj: ∀i h,St i h-> ∀a∈is,∃o,h.get? a=aa o/\ ∀v,o.data≠ .cell v
section
variable {prog:aH} {w:av} {c:Sc} {σ:mX} {Λ:List (aF×List PV)}
structure uy (prog:aH) (w:av) (c:Sc) (σ:mX) (Λ:List (aF×List PV)) (own:List aF) (T8 iter:Expr) (Ug:List PV):Prop where
 run: ∀s:aq,In c σ Λ s.heap->aC (aI prog w) c.A (bJ iter c.env) (λx s'=>aC (aI prog w) c.A (pyIter x) (λit T3=> ∃T0 I is St,it= .ref I/\
  PQ prog w c.A c.X (hideAll T0.heap own) T8 I is Ug St/\St 0 T3.heap/\bB s T0/\bB T0 T3/\(∀a∈is,T0.heap.get? a=az)) (λz z=>False) s') (λz z=>False) s
def zj (prog:aH) (w:av) (c:Sc) (T8:Expr) (p:PV) (bs:mX):Prop:=
 ∀(σ:mX) (Λ:List (aF×List PV)) (s:aq) (v:ay),In c σ Λ s.heap->mP c.X s.heap p v->aC (aI prog w) c.A (lX T8 c.env v) (λz s'=>nB s s'/\In c (bs++σ) Λ s'.heap/\oH c.own s.heap s'.heap) (λz z=>False) s
theorem nO (hx:autoParam (sA c x) XJ) (hk:autoParam (c.env.scope.kind= .function) XZ):zj prog w c (.Name x px) p [(x,p)]:=λσ Λ s v i r=>
 dM (rC i hx r hk)
theorem F4 {R:Result->aq->Prop} (I:Nat->aq->Prop)
  (Xp: ∀n s,I n s->aC (aI prog w) A (lW it) (λr T0=>match r with
   |none=>aC (aI prog w) A (iB orelse env) (λf Ua=>R (.ok f) Ua) (λz z=>False) T0
   |some v=>aC (aI prog w) A (cS T8 it v) (λz T3=>aC (aI prog w) A (lX T8 env v) (λz Ua=>aC (aI prog w) A (iB body env) (λf Um=>match f with
     |.next|.cont=> ∃m,m<n/\I m Um
     |.brk=>R (.ok .next) Um
     |.ret v=>R (.ok (.ret v)) Um) (λz z=>False) Ua) (λz z=>False) T3) (λz z=>False) T0) (λz z=>False) s)
  (n:Nat) (h:I n s):gw (aI prog w) A (.forLoop T8 it body orelse env) R s:=by
 refine codeAny_loop' rfl I (λn s hI=> ?_) n h
 refine wpAny_noted ?_
 refine ae (eD (ae (wpAny_onRaise (ab (Xp n s hI) (λr T0 Ub=> ?_) λz z e=>e.elim))))
 cases r with
 |none=>exact aj (.inr ⟨rfl,codeAny_block (ab Ub (λz z e=>e) λz z e=>e.elim)⟩)
 |some v=>
  refine ae (ab Ub (λz T3 Uu=>ae (ab Uu (λz Ua Uo=>ae (ab Uo (λf Um U9=> ?_) λz z e=>e.elim)) λz z e=>e.elim)) λz z e=>e.elim)
  cases f with
  |next=>exact aj (.inl ⟨rfl,U9⟩)
  |cont=>exact aj (.inl ⟨rfl,U9⟩)
  |brk=>exact aj U9
  |ret v=>exact aj U9
theorem GO {α:Type} {l:List α} {V:α->PV} {bs:α->mX} (σs:Nat->mX) (Λs:Nat->List (aF×List PV))
  (hi:uy prog w c σ Λ c.own T8 iter (l.map V)) (h0:σs 0=σ) (W4:Λs 0=Λ) (ha: ∀a is,a∈l->zj prog w (c.addX is) T8 (V a) (bs a))
  (hb: ∀i a g' is,l[i]? =aa a->mU c.g g'->(∀a∈is,c.g.get? a=az)->mT prog w c.env c.A (In ((c.addX is).at g') (bs a++σs i) (Λs i)) body (λfl h=>((fl= .next\/fl= .cont)/\In ((c.addX is).at g') (σs (i+1)) (Λs (i+1)) h)\/((∃v,fl= .ret v)/\J fl h)))
  (hr:mT prog w c.env c.A (In c (σs l.length) (Λs l.length)) rest J) (hs:autoParam (∀x,cO iter c.env x=bG x) X1):
  mT prog w c.env c.A (In c σ Λ) (.For T8 iter body [] pos::rest) J:=by
 refine qT (I':=In c (σs l.length) (Λs l.length)) (λs i=> ?_) hr
 refine wpAny_For (ab (hi.run s i) (λx z Ub=>ab Ub (λit T3 Uu=> ?_) λz z e=>e) λz z e=>e) hs
 refine Ba Uu ?_;clear Uu;intro W1 I is St T1 W st2 UK T2 fresh;obtain rfl:=T1
 have obj:=W.obj
 have T9:=i.mono (mG UK)
 have T4:=mH UK T2
 have gf: ∀a∈is,c.g.get? a=az:=λa ha=>by
  cases e:c.g.get? a with
  |none=>rfl
  |some o=>have:=T9.keep _ _ e;rw [fresh a ha] at this;exact nE this
 have Xk: ∀i h,St i h->NM (c.addX is) is h:=λj h st a ha=>⟨ax _ ha,λq=>(by let ⟨o,e⟩:=T9.live a q;rw [fresh a ha] at e;exact nE e),gf a ha,λo e=>by
  obtain ⟨o',e',q⟩:=obj j h st a ha;rw [e] at e';obtain rfl:=am e';exact q⟩
 have lvs: ∀i h,St i h->n7 is h:=λj h st a ha=>let ⟨o,e,_⟩:=obj j h st a ha;⟨o,e⟩
 have hY: ∀b∈(c.addX is).X,(∃o,(hideAll W1.heap c.own).get? b=aa o)->b∈c.X:=λb hb uu=>eE uu λo e=>by
  rcases ar.mp (AE.mp hb) with q|q
  ·have:=fresh b q;rw [bU _ e] at this;exact tD this
  ·exact q
 refine F4 (λk s'=> ∃j,j<=l.length/\k=l.length - j/\nB s s'/\In (c.addX is) (σs j) (Λs j) s'.heap/\St j s'.heap) ?_ l.length ⟨0,cx _,rfl,nB.of T4,by rw [h0,W4];exact T9.apart (mG T2) fresh (lvs _ _ st2),st2⟩
 rintro k s' ⟨j,hj,rfl,ex,ij,st⟩
 by_cases Un:j<l.length
 ·have hl:l[j]? =aa l[j]:=aA Un
  refine ab (W.item j (V l[j]) s' (c.addX is).X (by rw [a7,hl];rfl) st ij.liveAll hY) (λr T0 Ub=> ?_) λz z e=>e
  refine mR Ub ?_;clear Ub;intro v T1 Ub;obtain rfl:=T1
  refine ab Ub (λz Ua Uo=> ?_) λz z e=>e
  refine Ck Uo λUL Uc st3 Uj=> ?_
  have Ui:=ij.turn (Xk _ _ st) Uc (lvs _ _ st3)
  refine ab (ha l[j] is (dn Un) _ _ Ua v Ui Uj) (λz Um U9=> ?_) λz z e=>e
  refine rQ U9 λVq UV Ux=> ?_
  have offo: ∀b o,(hideAll W1.heap c.own).get? b=aa o->b∉c.own:=λb o e q=>by rw [dK _ q] at e;exact nE e
  have isO: ∀a∈is,a∉c.own:=λa ha=>(Xk _ _ st a ha).2.1
  have st4:=W.frame _ _ _ st3 (λb o e=>Ux b o (offo b o e) (W.keep _ _ st3 b o e)) λa ha o e=>Ux a o (isO a ha) e
  refine ab ((hb j l[j] _ is hl (wF (c:=c.addX is) UV) gf).run Um UV.hide) (λfl UH Vg=> ?_) λz z e=>e
  refine eA Vg λWM Vg=> ?_
  rcases Vg with ⟨Vt,VT⟩|⟨⟨v,rfl⟩,Vg⟩
  case inr=>exact ⟨ex.trans (UL.trans (Vq.trans WM)),Vg⟩
  have st5:=W.frame _ _ _ st4 (λb o e=>VT.keep b o (bS _ (W.keep _ _ st4 b o e) (offo b o e))) λa ha o e=>VT.keep a o (bS _ e (isO a ha))
  have Wh:In (c.addX is) (σs (j+1)) (Λs (j+1)) UH.heap:=VT.unreg (wF UV) i.fresh
  have qt: ∃m,m<l.length - j/\ ∃j,j<=l.length/\m=l.length - j/\nB s UH/\In (c.addX is) (σs j) (Λs j) UH.heap/\St j UH.heap:=
   ⟨l.length - (j+1),by exact (my (.i (.b xB xA) (.b (.s xA (.a xB xI)) (.s xA xB))) [_,_]) Un,j+1,Un,rfl,ex.trans (UL.trans (Vq.trans WM)),Wh,st5⟩
  rcases Vt with rfl|rfl<;>exact qt
 ·have:j=l.length:=by exact (my (.i (.l xA xB) (.i (.n (.b xA xB)) (.e xA xB))) [_,_]) hj Un
  subst this
  refine ab (W.done s' (by rw [ah];exact st)) (λr T0 Ub=> ?_) λz z e=>e
  refine rQ Ub ?_;clear Ub;intro T1 VV T2;obtain rfl:=T1
  exact iG ⟨ex.trans VV,ij.turnUn (Xk _ _ st) (λa ha q=>by let ⟨o,e⟩:=T9.liveX a q;rw [fresh a ha] at e;exact nE e) T2⟩
theorem CO {ι:Type} (P:ι->Prop) (σs:ι->mX) (Λs:ι->List (aF×List PV)) (m:ι->Nat) (tb:ι->Bool) (U4:ι)
  (h0:P U4) (W4:σs U4=σ) (h0'':Λs U4=Λ) (ht: ∀i,P i->Tr prog w (fs c (σs i) (Λs i)) test (tb i))
  (hb: ∀i,P i->tb i=ai->mT prog w c.env c.A (In c (σs i) (Λs i)) body (λfl h=>(fl= .next\/fl= .cont)/\ ∃j,P j/\m j<m i/\In c (σs j) (Λs j) h))
  (hr: ∀i,P i->tb i=false->mT prog w c.env c.A (In c (σs i) (Λs i)) rest J):
  mT prog w c.env c.A (In c σ Λ) (.While test body [] pos::rest) J:=by
 refine qT (I':=λh=> ∃i,P i/\tb i=false/\In c (σs i) (Λs i) h) (λs i=> ?_) (.mk λs uu=>tF uu λi p t q=>(hr i p t).run s q)
 subst W4 h0''
 refine wpAny_While (codeAny_whileLoop (λk s'=> ∃j,P j/\k=m j/\nB s s'/\In c (σs j) (Λs j) s'.heap) ?_ (m U4) ⟨U4,h0,rfl,nB.rfl' s,i⟩)
 rintro k s' ⟨j,pj,rfl,ex,ij⟩
 refine ab ((ht j pj).run s' ij) (λb T0 uu=>eA uu λT2 e=> ?_) λz z e=>e.elim
 subst e
 have T9:=ij.mono (mG T2)
 have ex1:=ex.trans (nB.of T2)
 cases WA:tb j with
 |true=>
  simp only [if_true]
  refine ab ((hb j pj WA).run T0 T9) (λfl T3 Uu=> ?_) λz z e=>e.elim
  refine QU Uu λUD Vt j' p' lt T7=> ?_
  have qt: ∃k,k<m j/\ ∃j,P j/\k=m j/\nB s T3/\In c (σs j) (Λs j) T3.heap:=⟨_,lt,j',p',rfl,ex1.trans UD,T7⟩
  rcases Vt with rfl|rfl<;>exact qt
 |false=>
  simp only [a9,if_false]
  exact iG ⟨ex1,j,pj,WA,T9⟩
end
section
variable {prog:aH} {w:av}
theorem FD (I:Nat->aq->Prop)
  (Xp: ∀n s,I n s->aC (aI prog w) A (lW it) (λr T0=>match r with
   |none=>R (.ok .next) T0
   |some v=>aC (aI prog w) A (cS T8 it v) (λz T0=>aC (aI prog w) A (lX T8 env v) (λz T3=>
     aC (aI prog w) A (lK VH env) (λok Ua=>
      if ok=ai then aC (aI prog w) A (bJ elt env) (λx Um=>
       aC (aI prog w) A (ft (.builtin "list.append") [Ut,x]) (λz UH=> ∃m,m<n/\I m UH) (λz z=>False) Um) (λz z=>False) Ua
      else ∃m,m<n/\I m Ua) (λz z=>False) T3) (λz z=>False) T0) (λz z=>False) T0) (λz z=>False) s)
  (n:Nat) (h:I n s):
  gw (aI prog w) A (.compLoop (.ListComp elt [⟨T8,iter,VH,0⟩] scope pos) 0 it Ut env) R s:=by
 refine codeAny_loop rfl I (λn s hI=> ?_) n h
 show aC _ A ((compTurn (.ListComp elt [⟨T8,iter,VH,0⟩] scope pos) 0 it Ut env).onRaise (λx=>do noteFrame x env;theTreesLotGoes x)) _ _ s
 refine wpAny_noted ?_
 rw [compTurn_list]
 refine ae (eD (ae (ab (Xp n s hI) (λr T0 Ub=> ?_) λz z e=>e.elim)))
 cases r with
 |none=>exact aj Ub
 |some v=>
  refine ae (ab Ub (λz T0 Ub=>ae (ab Ub (λz T3 Uu=> ?_) λz z e=>e.elim)) λz z e=>e.elim)
  have h₂':aC (aI prog w) A (iC VH ai λc r=>if r=ai then do let ok <-isTrue c env (bJ c env);bG (lc ok) else bG (lc r)) (λok Ua=>
      if ok=ai then aC (aI prog w) A (bJ elt env) (λx Um=>
       aC (aI prog w) A (ft (.builtin "list.append") [Ut,x]) (λz UH=> ∃m,m<n/\I m UH) (λz z=>False) Um) (λz z=>False) Ua
      else ∃m,m<n/\I m Ua) (λz z=>False) T3:=λΓ p hΓ=>by
   have:=Uu Γ p hΓ
   unfold lK at this
   simpa using this
  refine ae (ab h₂' (λok Ua Uo=> ?_) λz z e=>e.elim)
  cases ok with
  |false=>exact aj ⟨rfl,Uo⟩
  |true=>
   exact ae (ae (ab Uo (λx Um U9=>ae (ab U9 (λz UH Vg=>aj (aj ⟨rfl,Vg⟩)) λz z e=>e.elim)) λz z e=>e.elim))
structure zD (prog:aH) (w:av) (φ:Fs) (VH:List Expr) (b:Bool):Prop where
 run: ∀s:aq,φ.I s.heap->aC (aI prog w) φ.A (lK VH φ.env) (λc s'=>bB s s'/\c=b) (λz z=>False) s
theorem og:zD prog w φ [] ai:=.mk λs z=>aj ⟨mO _,rfl⟩
theorem yI (h:Tr prog w φ e b):zD prog w φ [e] b:=.mk λs i=>by
 unfold lK
 simp only [cD,ik,if_true]
 exact ae (ae (ae (ab (h.run s i) (λc s' hc=>aj (aj (aj hc))) λz z e=>e)))
end
section
variable {prog:aH} {w:av} {c:Sc} {σ:mX} {Λ:List (aF×List PV)}
def nk (c:Sc) (scope:Scope) (cl:List (Str×aF)) (C:aF) (g:aW) (T6:List aF):Sc:=
 ⟨iY scope (bu (C+1) scope.names cl) C c.env,c.A,g,C::wI (bu (C+1) scope.names []),T6++c.X⟩
def vB (cells:List (Str×aF)):List (Str×aF)->Prop
 |[]=>True
 |z::r=>cells.lookup z.1=aa z.2/\vB cells r
theorem vB.mem: ∀{cl:List (Str×aF)},vB cells cl-> ∀z∈cl,cells.lookup z.1=aa z.2
 |_::_,h,_,.head _=>h.1
 |_::_,h,_,.tail _ m=>h.2.mem _ m
theorem pZ: ∀(names:List (Str×kD)) (n:Nat) (Ut:List (Str×aF)),bu n names Ut=bu n names []++Ut
 |[],n,Ut=>rfl
 |(x,k)::r,n,Ut=>by
  unfold bu
  split
  ·rw [pZ r _ ((x,n)::Ut),pZ r _ [(x,n)],aJ];rfl
  ·exact pZ r n Ut
structure v9 (c:Sc) (σ σf:mX) (scope:Scope) (cl:List (Str×aF)):Prop where
 at': ∀x p,σf.lookup x=aa p->σ.lookup x=aa p/\(c.env.kindOf x=aa .cell\/(c.env.kindOf x=aa .free/\(x==("__classdict__":Str))=false))/\
  ∀C,(bu C scope.names cl).lookup x=c.env.cells.lookup x/\((iY scope cl C c.env).kindOf x=aa .cell\/((iY scope cl C c.env).kindOf x=aa .free/\(x==("__classdict__":Str))=false))
theorem nJ:v9 c σ [] scope cl:=⟨λx p e=>by simp at e⟩
theorem n5 (h:v9 c σ σf scope cl) (h1:σ.lookup x=aa p) (h2:c.env.kindOf x=aa .cell\/(c.env.kindOf x=aa .free/\(x==("__classdict__":Str))=false))
  (h3: ∀C,(bu C scope.names cl).lookup x=c.env.cells.lookup x) (h4: ∀C,((iY scope cl C c.env).kindOf x=aa .cell\/((iY scope cl C c.env).kindOf x=aa .free/\(x==("__classdict__":Str))=false))):v9 c σ ((x,p)::σf) scope cl:=⟨λy q e=>by
 by_cases hy:y=x
 ·subst hy;simp [aD] at e;subst e;exact ⟨h1,h2,λC=>⟨h3 C,h4 C⟩⟩
 ·have:(y==x)=false:=by simpa using hy
  simp [aD,this] at e;exact h.at' y q e⟩
theorem PlainList.push' (h:s.heap.PlainList D ys) (hsz:ys.size<=bn):
  aC (aI prog w) A (ft (.builtin "list.append") [.ref D,y]) (λz s'=>nB s s'/\s'.heap.PlainList D (ys.push y)/\cL D s.heap s'.heap) (λz z=>False) s:=
 lN (hsz:=hsz) h λh' hl hs=>⟨⟨_,_,rfl⟩,hl,hs⟩
theorem I8 {code:ay}
  (hQ:Q (newEnv scope s.heap.objs.size globals (bu (s.heap.objs.size+1) scope.names closure) qual func code around builtins) {s with heap:=pushCells (s.heap.push {cls:=.type (if around.isSome then "dict" else "frame"),data:=.dict #[]}) scope.names}):
  aC M A (newFunctionEnv scope globals closure [] qual func code around builtins) Q E s:=by
 simp only [newFunctionEnv]
 refine ae (wpAny_alloc ?_)
 refine ae (wpAny_layCells _ (λname kind cells=>by cases hkc:kind==kD.cell<;>simp [hkc]) _ _ _ _ ?_)
 rw [show ({s with heap:=s.heap.push {cls:=.type (if around.isSome then "dict" else "frame"),data:=.dict #[]}}:aq).heap.objs.size=s.heap.objs.size+1 from cw ..]
 cases around with
 |none=>exact ae (aj (aj hQ))
 |some e=>exact ae (aj (aj hQ))
theorem In.other {h h':aW} (i:In c σ Λ h) (hD:D∈c.X) (hO:D∉c.own) (hc: ∀o,h.get? D=aa o-> ∀v,o.data≠ .cell v) (hg:c.g.get? D=az)
  (k: ∀b o,b≠D->h.get? b=aa o->h'.get? b=aa o) (lv: ∃o,h'.get? D=aa o):In c σ Λ h':=by
 have hD0:D∈c.X0:=(ar.mp hD).elim (λq=>absurd q hO) id
 exact In.turn (is:=[D]) i (λa ha=>by exact (ak.mp ha)▸(⟨hD0,hO,hg,hc⟩)) (λb o nb e=>k b o (λq=>nb (ak.mpr q)) e) (λa ha=>by exact (ak.mp ha)▸lv)
theorem DA {α:Type} {l:List α} {V:α->PV} {bs:α->mX} (σf:mX) (t:α->Bool) (o:α->PV)
  (hi:uy prog w c σ Λ [] T8 iter (l.map V)) (hc:v9 c σ σf scope cl)
  (ha: ∀a C g T6,a∈l->(∀b∈(nk c scope cl C g T6).own,b∉c.X)->zj prog w (nk c scope cl C g T6) T8 (V a) (bs a))
  (ht: ∀a C g T6,a∈l->mU c.g g->(∀b∈(nk c scope cl C g T6).own++T6,c.g.get? b=az)->zD prog w (fs (nk c scope cl C g T6) (bs a++σf) []) VH (t a))
  (he: ∀a C g T6,a∈l->t a=ai->mU c.g g->(∀b∈(nk c scope cl C g T6).own++T6,c.g.get? b=az)->Ev prog w (fs (nk c scope cl C g T6) (bs a++σf) []) elt (o a))
  (hsz:l.length<=bn) (VI: ∀a∈l,(σf.all λq=>((bs a).lookup q.1).isNone)=ai)
  (Va:gK scope c.env=bG cl) (UW:vB c.env.cells cl) (UX:scope.kind= .function) (US: ∀y∈scope.names,y.2= .local->scope.names.lookup y.1=aa .local)
  (hs: ∀x,cO iter c.env x=bG x)
  (i:In c σ Λ s.heap)
  (qt: ∀(Ua:aq) (C:aF) (v:ay),s.heap.get? C=az->(∃m,Ua.heap.Ns C m)->(∀h',cL C Ua.heap h'->bB s {Ua with heap:=h'}/\mP c.X h' (.list ((l.filter t).map o)) v)->
   compPost (aI prog w) c.A (λu u=>False) use Q v C (.ok .next) Ua):
  aC (aI prog w) c.A (comprehension (.ListComp elt [⟨T8,iter,VH,0⟩] scope pos) scope c.env cp (newList []) false (bJ iter c.env) use) Q (λu u=>False) s:=by
 refine wpAny_comprehension_free (use:=use) rfl hs Va UX US ?_
 refine ab (hi.run s i) (λx u Ub=>ab Ub (λit T3 Uu=> ?_) λu u e=>e.elim) λu u e=>e.elim
 refine Ba Uu ?_;clear Uu;intro T0 I is St T1 W st2 UK T2 fresh;obtain rfl:=T1
 have T9:=i.mono (mG UK)
 have T7:=T9.mono (mG T2)
 refine eI (I8 ?_)
 generalize hD:T3.heap.objs.size=D
 have hC:(T3.heap.push {cls:=.type "list",dict:=az,data:=.seq ([]:List ay).toArray}).objs.size=D+1:=by rw [cw,hD]
 rw [hC]
 simp only [Option.isSome_some,if_true]
 generalize hH:pushCells ((T3.heap.push {cls:=.type "list",dict:=az,data:=.seq ([]:List ay).toArray}).push {cls:=.type "dict",data:=.dict #[]}) scope.names=H
 have kk:mU T3.heap H:=λb o e=>hH▸ke _ _ _ _ (aO _ (aO _ e))
 have VL:=(mG T2).trans kk
 have hDl:H.PlainList D #[]:=⟨_,hH▸ke _ _ _ _ (aO _ (hD▸au _ rfl))⟩
 have hCn:H.Ns (D+1) (λu=>az):=by
  rw [<-hH,<-hC];exact (aW.Ns.new _ (.type "dict")).keeps (ke _ _)
 have ok:=cellsFrom_ok scope.names ((T3.heap.push {cls:=.type "list",dict:=az,data:=.seq ([]:List ay).toArray}).push {cls:=.type "dict",data:=.dict #[]}) (D+2) [] ⟨λu u hm=>(nomatch hm),List.Pairwise.nil⟩ (by rw [cw,hC];exact aN _)
 rw [cw,hC,hH] at ok
 have UU: ∀b,D<=b->T3.heap.get? b=az:=λb hb=>n6 (hD▸hb)
 have above1: ∀b,D<=b->T0.heap.get? b=az:=λb hb=>by
  cases e:T0.heap.get? b with
  |none=>rfl
  |some o=>have:=mG T2 _ _ e;rw [UU b hb] at this;exact nE this
 generalize hc':nk c scope cl (D+1) T0.heap (D::is)=c'
 have Uz: ∀b∈c'.own,D<=b:=λb hb=>by
  rw [<-hc'] at hb
  rcases ao.mp hb with q|q
  ·rw [q];exact iy _
  ·obtain ⟨n,e⟩:=pB.mp q
   exact ch (by exact my (.l xA (.a xA xM)) [_]) (ok.empty n b (mem_of_lookup e)).2
 have ownX: ∀b∈(nk c scope cl (D+1) T0.heap (D::is)).own,b∉c.X:=λb hb q=>by
  rw [hc'] at hb
  obtain ⟨o,e⟩:=T7.liveAll _ q
  rw [UU b (Uz b hb)] at e;exact nE e
 have hX: ∀b∈c'.X,b∈c'.own\/b=D\/b∈is\/b∈c.X:=λb hb=>by
  rcases ar.mp hb with q|q
  ·exact .inl q
  ·rw [<-hc'] at q
   rcases ar.mp q with q|q
   ·rcases ao.mp q with q|q
    ·exact .inr (.inl q)
    ·exact .inr (.inr (.inl q))
   ·exact .inr (.inr (.inr q))
 have hX': ∀b∈c.X,b∈c'.X:=λb hb=>by rw [<-hc'];exact aM _ (aM _ hb)
 have isX': ∀b∈is,b∈c'.X:=λb hb=>by rw [<-hc'];exact aM _ (ax _ (.tail _ hb))
 have DX':D∈c'.X:=by rw [<-hc'];exact aM _ (ax _ (.head _))
 have WP: ∀b∈c'.X,(∃o,T0.heap.get? b=aa o)->b∈c.X:=λb hb uu=>eE uu λo e=>by
  rcases hX b hb with q|q|q|q
  ·rw [above1 b (Uz b q)] at e;exact nE e
  ·rw [above1 b (gh q.symm)] at e;exact nE e
  ·rw [fresh b q] at e;exact nE e
  ·exact q
 have gn: ∀b,T0.heap.get? b=az->c.g.get? b=az:=λb e=>by
  cases q:c.g.get? b with
  |none=>rfl
  |some o=>have:=T9.keep _ _ q;rw [e] at this;exact nE this
 have hnew: ∀b∈(nk c scope cl (D+1) T0.heap (D::is)).own++(D::is),c.g.get? b=az:=λb hb=>by
  rw [hc'] at hb
  rcases ar.mp hb with q|q
  ·exact gn b (above1 b (Uz b q))
  ·rcases ao.mp q with q|q
   ·exact gn b (above1 b (gh q.symm))
   ·exact gn b (fresh b q)
 have VF:(c'.env)=iY scope (bu (D+1+1) scope.names cl) (D+1) c.env:=by rw [<-hc'];rfl
 have In₀:In c' σf [] H:={
  keep:=by rw [<-hc'];exact VL
  fresh:=λb hb=>by rw [<-hc'];exact above1 b (Uz b hb)
  live:=λb hb=>by
   rw [<-hc'] at hb
   rcases ao.mp hb with q|q
   ·rw [q];refine wD hCn λo u u e u=> ?_;exact ⟨o,e⟩
   ·obtain ⟨n,e⟩:=pB.mp q
    refine mR ((ok.empty n b (mem_of_lookup e)).1) λo e u=> ?_
    exact ⟨o,e⟩
  liveX:=λb hb=>by
   rw [<-hc'] at hb
   rcases ar.mp hb with q|q
   ·rcases ao.mp q with q|q
    ·rw [q];obtain ⟨_,e⟩:=hDl;exact ⟨_,e⟩
    ·refine mR (W.obj _ _ st2 b q) λo e u=> ?_;exact ⟨o,kk _ _ e⟩
   ·exact T7.liveAll.keep kk b q
  locOwn:=by rw [<-hc'];exact .head _
  loc:=⟨_,by rw [VF];exact hCn,λx p hx e=>by
   refine rQ (hc.at' x p e) λu u h3=> ?_
   rw [VF] at hx
   rcases (h3 (D+1)).2 with q|⟨q,_⟩
   ·exact absurd (hx.symm.trans q) (by decide)
   ·exact absurd (hx.symm.trans q) (by decide)⟩
  cel:=λx p u e=>by
   refine rQ (hc.at' x p e) λh1 h2 h3=> ?_
   refine nh (T9.cel x p h2 h1) λa v q1 q2 q3=> ?_
   refine ⟨a,v,?_,q2.keeps VL,mP.keep VL (q3.sub WP)⟩
   rw [VF]
   exact ((h3 (D+1+1)).1).trans q1
  cob:=λx a e=>by
   rw [VF] at e
   have e:(bu (D+1+1) scope.names cl).lookup x=aa a:=e
   rw [pZ] at e
   rcases ar.mp (mem_of_lookup e) with q|q
   ·exact ⟨_,(ok.empty x a q).1⟩
   ·obtain ⟨v,q⟩:=T9.cob x a (UW.mem _ q)
    exact ⟨v,q.keeps VL⟩
  kinds:=λx p e=>by
   refine rQ (hc.at' x p e) λu u h3=> ?_
   rw [VF]
   rcases (h3 (D+1)).2 with q|q
   ·exact .inr (.inl q)
   ·exact .inr (.inr q)
  lists:=λq hq=>nomatch hq}
 have st0:St 0 H:=W.frame _ _ _ st2 (λb o e=>kk b o (W.keep _ _ st2 b o e)) λa ha o e=>kk a o e
 have Xk: ∀j h,St j h->NM c' is h:=λj h st a ha=>⟨(by rw [<-hc'];exact ax _ (.tail _ ha)),(λq=>by
   have:=Uz a q
   obtain ⟨o,e,_⟩:=W.obj _ _ st2 a ha
   rw [UU a this] at e;exact nE e),(by rw [<-hc'];exact fresh a ha),λo e=>by
   obtain ⟨o',e',q⟩:=W.obj j h st a ha;rw [e] at e';obtain rfl:=am e';exact q⟩
 have lvs: ∀i h,St i h->n7 is h:=λj h st a ha=>let ⟨o,e,_⟩:=W.obj j h st a ha;⟨o,e⟩
 have Dis:D∉is:=λq=>by obtain ⟨o,e,_⟩:=W.obj _ _ st2 D q;rw [UU D (aN _)] at e;exact nE e
 have Dc:D∉c'.own:=λq=>by
  rw [<-hc'] at q
  rcases ao.mp q with q|q
  ·exact (my (.n (.e xA (.a xA xI))) [_]) q
  ·obtain ⟨n,e⟩:=pB.mp q
   have:=(ok.empty n D (mem_of_lookup e)).2
   exact (my (.n (.l (.a xA xM) xA)) [_]) this
 have ex₀:nB s {T3 with heap:=H}:=(nB.of (mH UK T2)).trans ⟨H,T3.toks,rfl⟩
 have Xo:gw (aI prog w) c.A (.compLoop (.ListComp elt [⟨T8,iter,VH,0⟩] scope pos) 0 (.ref I) (.ref D) c'.env)
   (compPost (aI prog w) c.A (λu u=>False) use Q (.ref D) (D+1)) {T3 with heap:=H}:=by
  refine FD (λk s'=> ∃j,j<=l.length/\k=l.length - j/\nB s s'/\In c' σf [] s'.heap/\(∃vs:List ay,s'.heap.PlainList D vs.toArray/\mK c'.X s'.heap (((l.take j).filter t).map o) vs)/\St j s'.heap) ?_ l.length
   ⟨0,cx _,rfl,ex₀,In₀,⟨[],hDl,by simpa using mK.nil⟩,st0⟩
  rintro k s' ⟨j,hj,rfl,ex,ij,⟨vs,hl,hr⟩,st⟩
  by_cases Un:j<l.length
  ·have hjl:l[j]? =aa l[j]:=aA Un
   have ga: ∀b∈c'.X,(∃o,(hideAll T0.heap []).get? b=aa o)->b∈c.X:=λb hb uu=>eE uu λo e=>WP b hb ⟨o,bU _ e⟩
   refine ab (W.item j (V l[j]) s' c'.X (by rw [a7,hjl];rfl) st ij.liveAll ga) (λr Ua Uo=> ?_) λu u e=>e
   refine mR Uo ?_;clear Uo;intro v T1 Uo;obtain rfl:=T1
   refine ab Uo (λu Um U9=> ?_) λu u e=>e
   refine Ck U9 λVq Ux st4 Wn=> ?_
   have UV:=ij.turn (Xk _ _ st) Ux (lvs _ _ st4)
   have hl4:Um.heap.PlainList D vs.toArray:=hl.at λo e=>Ux _ _ Dis e
   have hr₄:mK c'.X Um.heap (((l.take j).filter t).map o) vs:=hr.keepX λb o nb e=>Ux b o (λq=>nb (isX' b q)) e
   have Xn:=dn Un
   refine ab (Q:=λu UH=>nB Um UH/\In c' (bs l[j]++σf) [] UH.heap/\oH c'.own Um.heap UH.heap) (by
    have:=ha l[j] (D+1) T0.heap (D::is) Xn ownX σf [] Um v
    rw [hc'] at this
    have q:=this UV Wn
    rw [<-hc'] at q ⊢
    exact q) (λu UH Vg=> ?_) λu u e=>e
   refine rQ Vg λWM VT VJ=> ?_
   have hl₅:=hl4.at λo e=>VJ _ _ Dc e
   have hr₅:mK c'.X UH.heap (((l.take j).filter t).map o) vs:=hr₄.keepX λb o nb e=>VJ b o (λq=>nb (ax _ q)) e
   have ownIs: ∀a∈is,a∉c'.own:=λa ha=>(Xk _ _ st a ha).2.1
   have st5:St (j+1) UH.heap:=W.frame _ _ _ st4 (λb o e=>VJ b o (λq=>by
    have:=above1 b (Uz b q);rw [bU _ e] at this;exact tD this) (W.keep _ _ st4 b o e)) λa ha o e=>VJ a o (ownIs a ha) e
   have Wh:(fs (nk c scope cl (D+1) T0.heap (D::is)) (bs l[j]++σf) []).I UH.heap:=by
    show In (nk c scope cl (D+1) T0.heap (D::is)) _ _ _
    rw [hc'];exact VT
   have back: ∀{h:aW},In c' (bs l[j]++σf) [] h->In c' σf [] h:=λi=>i.weak (MV (VI _ Xn))
   have ht':=(ht l[j] (D+1) T0.heap (D::is) Xn (i.keep.trans (mG UK)|>λk=>k) hnew).run UH Wh
   rw [show (fs (nk c scope cl (D+1) T0.heap (D::is)) (bs l[j]++σf) []).env=c'.env by rw [hc'];rfl,show (fs (nk c scope cl (D+1) T0.heap (D::is)) (bs l[j]++σf) []).A=c.A from rfl] at ht'
   have Vt:((l.take (j+1)).filter t).map o=((l.take j).filter t).map o++(if t l[j]=ai then [o l[j]] else []):=by
    rw [dH Un,List.filter_append,bi]
    cases h:t l[j]<;>simp [h]
   refine ab ht' (λb s₆ uu=>eA uu λVZ e=> ?_) λu u e=>e
   subst e
   have Wo:=VT.mono (mG VZ)
   have ex6:=ex.trans (Vq.trans (WM.trans (nB.of VZ)))
   have hl6:=hl₅.at λo e=>mG VZ _ _ e
   have hr6:=mK.keep (mG VZ) hr₅
   have st6:St (j+1) s₆.heap:=W.frame _ _ _ st5 (λb o e=>mG VZ _ _ (W.keep _ _ st5 b o e)) λa u o e=>mG VZ _ _ e
   cases htj:t l[j] with
   |false=>
    simp only [a9,if_false]
    refine ⟨l.length - (j+1),by exact (my (.i (.b xB xA) (.b (.s xA (.a xB xI)) (.s xA xB))) [_,_]) Un,j+1,Un,rfl,ex6,back Wo,⟨vs,hl6,?_⟩,st6⟩
    rw [Vt,htj];simpa using hr6
   |true=>
    simp only [if_true]
    have he':=(he l[j] (D+1) T0.heap (D::is) Xn htj (i.keep.trans (mG UK)) hnew).run s₆ (by
     show In (nk c scope cl (D+1) T0.heap (D::is)) _ _ _
     rw [hc'];exact Wo)
    rw [show (fs (nk c scope cl (D+1) T0.heap (D::is)) (bs l[j]++σf) []).env=c'.env by rw [hc'];rfl,show (fs (nk c scope cl (D+1) T0.heap (D::is)) (bs l[j]++σf) []).A=c.A from rfl,
     show (fs (nk c scope cl (D+1) T0.heap (D::is)) (bs l[j]++σf) []).X=c'.X by rw [hc'];rfl] at he'
    refine ab he' (λy Wy uu=>eA uu λUJ Xe=> ?_) λu u e=>e
    have hl7:=hl6.at λo e=>mG UJ _ _ e
    have hr7:=mK.keep (mG UJ) hr6
    have i₇:=Wo.mono (mG UJ)
    have st7:St (j+1) Wy.heap:=W.frame _ _ _ st6 (λb o e=>mG UJ _ _ (W.keep _ _ st6 b o e)) λa u o e=>mG UJ _ _ e
    have Ue:vs.length<=j:=by rw [hr7.len,ah];exact ch (kS _ _) (by rw [dm];exact my (.l (.n xA xB) xA) [_,_])
    refine ab (PlainList.push' hl7 (by rw [bo];exact (my (.i (.l xC xB) (.i (.b xD xC) (.i (.l xA xD) (.l xA xB)))) [_,_,_,_]) hsz Un Ue)) (λu s₈ uu=>rQ uu λe₈ hl8 sb=> ?_) λu u e=>e
    have kX:oH c'.X Wy.heap s₈.heap:=λb o nb e=>by rw [sb.2 b (λq=>nb (q▸DX'))];exact e
    have kO: ∀b o,b≠D->Wy.heap.get? b=aa o->s₈.heap.get? b=aa o:=λb o nb e=>by rw [sb.2 b nb];exact e
    refine ⟨l.length - (j+1),by exact (my (.i (.b xB xA) (.b (.s xA (.a xB xI)) (.s xA xB))) [_,_]) Un,j+1,Un,rfl,ex6.trans ((nB.of UJ).trans e₈),?_,⟨vs++[y],?_,?_⟩,?_⟩
    ·exact back (i₇.other (D:=D) DX' Dc (λo e v=>by obtain ⟨_,q⟩:=hl7;rw [q] at e;obtain rfl:=am e;exact λz=>nomatch z) (by rw [<-hc'];exact above1 D (aN _)) kO (let ⟨_,q⟩:=hl8;⟨_,q⟩))
    ·simpa using hl8
    ·rw [Vt,htj];simp only [if_true]
     exact mK.append (hr7.keepX kX) (mK.cons (Xe.keepX kX) mK.nil)
    ·exact W.frame _ _ _ st7 (λb o e=>kO b o (λq=>by rw [q] at e;have:=above1 D (aN _);rw [bU _ e] at this;exact tD this) (W.keep _ _ st7 b o e)) λa ha o e=>kO a o (λq=>Dis (q▸ha)) e
  ·have:j=l.length:=by exact (my (.i (.l xA xB) (.i (.n (.b xA xB)) (.e xA xB))) [_,_]) hj Un
   subst this
   refine ab (W.done s' (by rw [ah];exact st)) (λr Ua Uo=> ?_) λz z e=>e
   refine rQ Uo ?_;clear Uo;intro T1 UL Uc;obtain rfl:=T1
   have own3: ∀b∈c'.own,∀o,s'.heap.get? b=aa o->Ua.heap.get? b=aa o:=λb hb o e=>Uc b o (λq=>(Xk _ _ st b q).2.1 hb) e
   refine mR ij.loc λm n z=> ?_
   replace n:=n.at' λo e=>own3 _ ij.locOwn o e
   refine qt Ua (D+1) (.ref D) (by
    cases e:s.heap.get? (D+1) with
    |none=>rfl
    |some o=>have:=mG UK _ _ e;rw [above1 _ (iy _)] at this;exact nE this) ⟨m,by rw [VF] at n;exact n⟩ λh' sb=>⟨?_,?_⟩
   ·refine rN (ex.trans UL) λUo Vy e=> ?_
    refine ⟨h',Vy,by rw [e],λb o q=> ?_⟩
    have V4:=mG UK _ _ q
    have hb:b<D:=by
     by_cases hb:D<=b
     ·rw [above1 b hb] at V4;exact nE V4
     ·exact Nat.lt_of_not_le hb
    show h'.get? b=aa o
    rw [sb.2 b (dj (gG hb))]
    have:=ij.keep b o (by rw [<-hc'];exact V4)
    exact Uc b o (λq=>by rw [fresh b q] at V4;exact nE V4) this
   ·have hl₃:Ua.heap.PlainList D vs.toArray:=hl.at λo e=>Uc _ _ Dis e
    have WN:mK c'.X Ua.heap (((l.take l.length).filter t).map o) vs:=hr.keepX λb o nb e=>Uc b o (λq=>nb (isX' b q)) e
    have kc:oH c'.X Ua.heap h':=λb o nb e=>by rw [sb.2 b (λq=>nb (by rw [q,<-hc'];exact ax _ (.head _)))];exact e
    rw [eJ] at WN
    refine ⟨D,vs,rfl,λq=> ?_,?_,(WN.keepX kc).sub λb hb z=>hX' b hb⟩
    ·obtain ⟨o,e⟩:=T7.liveAll D q
     rw [UU D (aN _)] at e;exact nE e
    ·obtain ⟨n',q⟩:=hl₃
     exact ⟨_,(sb.2 D (dj (dw D))).trans q,rfl,_,rfl⟩
 rw [VF] at Xo
 exact codeAny_compStart_list Xo (W.self 0 _ _ _ st0 Xo)
theorem FE {α:Type} {l:List α} {V:α->PV} {bs:α->mX} (σf:mX) (t:α->Bool) (o:α->PV)
  (hi:uy prog w c σ Λ [] T8 iter (l.map V)) (hc:v9 c σ σf scope cl)
  (ha: ∀a C g T6,a∈l->(∀b∈(nk c scope cl C g T6).own,b∉c.X)->zj prog w (nk c scope cl C g T6) T8 (V a) (bs a))
  (ht: ∀a C g T6,a∈l->mU c.g g->(∀b∈(nk c scope cl C g T6).own++T6,c.g.get? b=az)->zD prog w (fs (nk c scope cl C g T6) (bs a++σf) []) VH (t a))
  (he: ∀a C g T6,a∈l->t a=ai->mU c.g g->(∀b∈(nk c scope cl C g T6).own++T6,c.g.get? b=az)->Ev prog w (fs (nk c scope cl C g T6) (bs a++σf) []) elt (o a))
  (hsz:l.length<=bn) (VI: ∀a∈l,(σf.all λq=>((bs a).lookup q.1).isNone)=ai)
  (Va:gK scope c.env=bG cl) (UW:vB c.env.cells cl) (UX:scope.kind= .function) (US: ∀y∈scope.names,y.2= .local->scope.names.lookup y.1=aa .local)
  (hs:autoParam (∀x,cO iter c.env x=bG x) X1):
  Ev prog w (fs c σ Λ) (.ListComp elt [⟨T8,iter,VH,0⟩] scope pos) (.list ((l.filter t).map o)):=.mk λs i=>by
 show aC _ _ (bJ _ c.env) _ _ s
 rw [eval_ListComp]
 exact DA σf t o hi hc ha ht he hsz VI Va UW UX US hs i λUa C v hC hm h=>let ⟨m,hm⟩:=hm;⟨m,hm,h⟩
theorem pG {α:Type} {l:List α} {V:α->PV} {bs:α->mX} (σf:mX) (t:α->Bool) (o:α->PV)
  (hi:uy prog w c σ Λ [] T8 iter (l.map V)) (hc:v9 c σ σf scope cl)
  (ha: ∀a C g T6,a∈l->zj prog w (nk c scope cl C g T6) T8 (V a) (bs a))
  (ht: ∀a C g T6,a∈l->mU c.g g->(∀b∈(nk c scope cl C g T6).own++T6,c.g.get? b=az)->zD prog w (fs (nk c scope cl C g T6) (bs a++σf) []) VH (t a))
  (he: ∀a C g T6,a∈l->t a=ai->mU c.g g->(∀b∈(nk c scope cl C g T6).own++T6,c.g.get? b=az)->Ev prog w (fs (nk c scope cl C g T6) (bs a++σf) []) elt (o a))
  (hsz:l.length<=bn) (VI: ∀a∈l,(σf.all λq=>((bs a).lookup q.1).isNone)=ai)
  (Va:gK scope c.env=bG cl) (UW:vB c.env.cells cl) (UX:scope.kind= .function) (US: ∀y∈scope.names,y.2= .local->scope.names.lookup y.1=aa .local)
  (hs:autoParam (∀x,cO iter c.env x=bG x) X1):
  Ev prog w (fs c σ Λ) (.ListComp elt [⟨T8,iter,VH,0⟩] scope pos) (.list ((l.filter t).map o)):=
 FE σf t o hi hc (λa C g T6 h z=>ha a C g T6 h) ht he hsz VI Va UW UX US hs
end
section
variable {prog:aH} {w:av} {c:Sc} {σ:mX} {Λ:List (aF×List PV)}
theorem t6 {UE:aW}
  (W:Walks prog w A I fp wr n P St') (W5: ∀b∈wr,b∈is) (hfp: ∀b∈fp,b∈is\/ ∃o,UE.get? b=aa o) (hg: ∀b∈is,UE.get? b=az)
  (Xh: ∀i h,St' i h-> ∀a∈is,∃o,h.get? a=aa o/\ ∀v,o.data≠ .cell v) (Ue:n=Ug.length)
  (hP: ∀i p v h Y,Ug[i]? =aa p->P i v->mU UE h->(∀b∈Y,(∃o,UE.get? b=aa o)->b∈X)->mP Y h p v)
  (hgo: ∀i p v (s:aq) (Q:Unit->aq->Prop) (E:ay->aq->Prop),Ug[i]? =aa p->P i v->St' (i+1) s.heap->Q () s->aC (aI prog w) A (cS T8 (.ref I) v) Q E s):
  PQ prog w A X UE T8 I is Ug (λi h=>St' i h/\mU UE h):=by
 have keep: ∀{h h':aW},mU UE h->(∀b o,b∉wr->h.get? b=aa o->h'.get? b=aa o)->mU UE h':=λ{h h'} k k' b o e=>
  k' b o (λq=>by rw [hg b (W5 b q)] at e;exact nE e) (k b o e)
 refine ⟨λi p s Y hi st lv hY=> ?_,λs st=> ?_,λi h h' st k ki=>⟨W.frame i h h' st.1 λb hb o e=> ?_,k⟩,λi h st=>st.2,λi s Q E st h=>W.self i s Q E st.1 h,λi h st=>Xh i h st.1⟩
 ·have VS:i<n:=by
   rw [Ue]
   exact (aT.mp hi).1
  refine W.item i s _ _ VS st.1 λv h' tk pv st' k'=>⟨v,rfl,hgo i p v _ _ _ hi pv st' ⟨⟨_,_,rfl⟩,λb o nb e=>k' b o (λq=>nb (W5 b q)) e,⟨st',keep st.2 k'⟩,hP i p v _ Y hi pv (keep st.2 k') hY⟩⟩
 ·subst Ue
  exact W.done s _ _ st.1 λh' tk k'=>⟨rfl,⟨_,_,rfl⟩,λb o nb e=>k' b o (λq=>nb (W5 b q)) e⟩
 ·rcases hfp b hb with q|⟨o',e'⟩
  ·exact ki b q o e
  ·have:=st.2 b o' e'
   rw [e] at this;obtain rfl:=am this
   exact k b o e'
theorem yh {UE:aW} {Ug:List (List PV)}
  (W:WalksT prog w A I fp wr n P St' Mid) (W5: ∀b∈wr,b∈is) (hfp: ∀b∈fp,b∈is\/ ∃o,UE.get? b=aa o) (hg: ∀b∈is,UE.get? b=az)
  (Xh: ∀i h,St' i h-> ∀a∈is,∃o,h.get? a=aa o/\ ∀v,o.data≠ .cell v) (Ue:n=Ug.length)
  (hP: ∀i p v h Y,Ug[i]? =aa p->P i v->mU UE h->(∀b∈Y,(∃o,UE.get? b=aa o)->b∈X)->mK Y h p v.toList):
  PQ prog w A X UE (.Tuple Vd ek epos) I is (Ug.map .tup) (λi h=>St' i h/\mU UE h):=by
 have keep: ∀{h h':aW},mU UE h->(∀b o,b∉wr->h.get? b=aa o->h'.get? b=aa o)->mU UE h':=λ{h h'} k k' b o e=>
  k' b o (λq=>by rw [hg b (W5 b q)] at e;exact nE e) (k b o e)
 refine ⟨λi p s Y hi st lv hY=> ?_,λs st=> ?_,λi h h' st k ki=>⟨W.frame i h h' st.1 λb hb o e=> ?_,k⟩,λi h st=>st.2,λi s Q E st h=>W.self i s Q E st.1 h,λi h st=>Xh i h st.1⟩
 ·rw [a7] at hi
  refine mR (dT.mp hi) λps hi' T1=> ?_;obtain rfl:=T1
  clear hi
  have hi:=hi'
  have VS:i<n:=by
   rw [Ue]
   exact (aT.mp hi).1
  refine W.item i s _ _ VS st.1 λT VX h' tk pv hT tT mid k'=>⟨_,rfl,?_⟩
  refine W.go Vd ek epos i T _ _ _ mid λWu st'' k''=> ?_
  have kk: ∀b o,b∉wr->s.heap.get? b=aa o->Wu.get? b=aa o:=λb o nb e=>k'' b o nb (k' b o nb e)
  have nT:=W.apart i T _ mid
  refine ⟨⟨_,_,rfl⟩,λb o nb e=>kk b o (λq=>nb (W5 b q)) e,⟨st'',keep st.2 kk⟩,?_⟩
  refine Ir tT λo e1 e2 m e3=> ?_
  refine ⟨T,VX.toList,rfl,λq=> ?_,⟨o,k'' T o nT e1,e2,m,by simpa using e3⟩,hP i ps VX _ Y hi pv (keep st.2 kk) hY⟩
  obtain ⟨o,e⟩:=lv T q
  exact absurd (aR e) (i7.mpr hT)
 ·rw [ah,<-Ue] at st
  exact W.done s _ _ st.1 λh' tk k'=>⟨rfl,⟨_,_,rfl⟩,λb o nb e=>k' b o (λq=>nb (W5 b q)) e⟩
 ·rcases hfp b hb with q|⟨o',e'⟩
  ·exact ki b q o e
  ·have:=st.2 b o' e'
   rw [e] at this;obtain rfl:=am this
   exact k b o e'
theorem pb {a b:Nat} (h:a<b\/b<a):a≠b:=by exact (my (.i (.o (.b xA xB) (.b xB xA)) (.n (.e xA xB))) [_,_]) h
theorem mK.get' {i:Nat} (r:mK X h ps vs) (e:ps[i]? =aa p) (e':vs.toArray[i]? =aa v):mP X h p v:=by
 obtain ⟨u,q,r'⟩:=r.get e
 rw [kU,q] at e';obtain rfl:=am e';exact r'
theorem so (ho: ∀b∈own,b∈X):oH X h (hideAll h own):=λb o nb e=>bS _ e λq=>nb (ho b q)
theorem qL {h:aW} (e: ∃o,h.get? a=aa o/\o.cls= .type T/\o.data= .fields vs): ∃o,h.get? a=aa o/\ ∀v,o.data≠ .cell v:=
 let ⟨o,e,_,d⟩:=e;⟨o,e,λv q=>by rw [d] at q;cases q⟩
theorem qF (he:Ev prog w (fs c σ Λ) iter (.list ps)) (hh:c.A.handled=az)
  (ht:(∃x px,T8= .Name x px)\/((∃Vd k pos,T8= .Tuple Vd k pos)/\ ∀p∈ps,∃l,p= .tup l)) (ho: ∀b∈own,b∈c.X):uy prog w c σ Λ own T8 iter ps:=.mk λs i=>by
 refine ab (he.run s i) (λx T0 uu=>eA uu λT2 T5=> ?_) λz z e=>e
 refine ni T5 ?_;clear T5;intro a vs T1 ha hl hr;obtain rfl:=T1
 have hr:mK c.X T0.heap ps vs:=hr
 have hn:a∉own:=λq=>ha (ho a q)
 refine mR (id hl) λo e1 e2=> ?_
 have ne:a≠T0.heap.objs.size:=dj (aR e1)
 have T4:=mZ T0 {cls:=.type "list_iterator",data:=.fields #[.ref a,.int 0 0]} T0.toks
 have ga:(hideAll T0.heap own).get? a=aa o:=bS _ e1 hn
 refine wpAny_pyIter_list hl ⟨T0,_,[T0.heap.objs.size],_,rfl,t6 (Walks.list hh T0.heap.objs.size a ne vs.toArray) (λz h=>h) (λb hb=> ?_) (λb hb=> ?_) (λi h st b hb=> ?_) ?_ (λj p v h Y e1 e2 k hY=> ?_) (λj p v s Q E hj hv st q=> ?_),⟨⟨⟨_,au _ rfl,rfl,rfl⟩,hl.at λo e=>mG T4 _ _ e⟩,?_⟩,T2,T4,λb hb=> ?_⟩
 ·simp at hb
  rcases hb with rfl|rfl
  ·exact .inl (.head _)
  ·exact .inr ⟨o,ga⟩
 ·rw [ak.mp hb];exact ph (nF _)
 ·rw [ak.mp hb];exact qL st.1
 ·rw [bo,hr.len]
 ·exact mP.keep k ((hr.get' e1 e2 |>.keepX (so ho)).sub hY)
 ·rcases ht with ⟨x,px,rfl⟩|⟨⟨Vd,ek,pos,rfl⟩,hp⟩
  ·exact bD (rfl:cS (.Name x px) _ v=bG ()) q
  ·refine eE (hp p (br hj)) λl T1=> ?_;obtain rfl:=T1
   have:=hr.get' hj hv
   refine oU this ?_;clear this;intro T _ T1 _;obtain rfl:=T1
   exact jW st.1 q
 ·exact λb o e=>mG T4 _ _ (bU _ e)
 ·rw [ak.mp hb];exact nF _
theorem Hz (he:Ev prog w (fs c σ Λ) iter (.tup ps)) (hh:c.A.handled=az) (ho: ∀b∈own,b∈c.X):uy prog w c σ Λ own (.Name x px) iter ps:=.mk λs i=>by
 refine ab (he.run s i) (λx T0 uu=>eA uu λT2 T5=> ?_) λz z e=>e
 refine ni T5 ?_;clear T5;intro a vs T1 ha hl hr;obtain rfl:=T1
 have hr:mK c.X T0.heap ps vs:=hr
 have hn:a∉own:=λq=>ha (ho a q)
 refine mR (id hl) λo e1 e2=> ?_
 have ne:a≠T0.heap.objs.size:=dj (aR e1)
 have T4:=mZ T0 {cls:=.type "tuple_iterator",data:=.fields #[.ref a,.int 0 0]} T0.toks
 have ga:(hideAll T0.heap own).get? a=aa o:=bS _ e1 hn
 refine et hl ⟨T0,_,[T0.heap.objs.size],_,rfl,t6 (kI hh T0.heap.objs.size a ne vs.toArray) (λz h=>h) (λb hb=> ?_) (λb hb=> ?_) (λi h st b hb=> ?_) ?_ (λj p v h Y e1 e2 k hY=> ?_) (λj p v s Q E hj hv st q=> ?_),⟨⟨⟨_,au _ rfl,rfl,rfl⟩,aW.IsTuple.at hl λo e=>mG T4 _ _ e⟩,?_⟩,T2,T4,λb hb=> ?_⟩
 ·simp at hb
  rcases hb with rfl|rfl
  ·exact .inl (.head _)
  ·exact .inr ⟨o,ga⟩
 ·rw [ak.mp hb];exact ph (nF _)
 ·rw [ak.mp hb];exact qL st.1
 ·rw [bo,hr.len]
 ·exact mP.keep k ((hr.get' e1 e2 |>.keepX (so ho)).sub hY)
 ·exact bD (rfl:cS (.Name _ px) _ v=bG ()) q
 ·exact λb o e=>mG T4 _ _ (bU _ e)
 ·rw [ak.mp hb];exact nF _
theorem Fv (e:(u.cps.toList.map λk=>PV.str ⟨#[k]⟩)[j]? =aa p) (hv:SignAt u j v):mP X h p v:=by
 obtain ⟨k,t,hk,rfl⟩:=hv
 rw [a7,Array.getElem?_toList,hk] at e
 obtain rfl:=am e
 exact ⟨t,rfl⟩
theorem N7 (he:Ev prog w (fs c σ Λ) iter (.str u)) (hh:c.A.handled=az):uy prog w c σ Λ own (.Name x px) iter (u.cps.toList.map λk=>.str ⟨#[k]⟩):=.mk λs i=>by
 refine ab (he.run s i) (λx T0 uu=>eA uu λT2 T5=> ?_) λz z e=>e
 refine eE T5 ?_;clear T5;intro t T1;obtain rfl:=T1
 have one: ∀b∈[T0.heap.objs.size],b=T0.heap.objs.size:=λb hb=>ak.mp hb
 cases ha:u.cps.all (· <128)
 ·have T4:=mZ T0 {cls:=.type "str_iterator",data:=.fields #[.str u t,.int 0 0]} T0.toks
  refine wpAny_pyIter_wide ha ⟨T0,_,[T0.heap.objs.size],_,rfl,t6 (Walks.strWide hh T0.heap.objs.size u t) (λz h=>h) (λb hb=>.inl hb) (λb hb=> ?_) (λi h st b hb=> ?_) ?_ (λj p v h Y e1 e2 k hY=>Fv e1 e2) (λj p v s Q E hj hv st q=>bD (rfl:cS (.Name _ px) _ v=bG ()) q),⟨⟨_,au _ rfl,rfl,rfl⟩,λb o e=>mG T4 _ _ (bU _ e)⟩,T2,T4,λb hb=> ?_⟩
  ·rw [one b hb];exact ph (nF _)
  ·rw [one b hb];exact qL st
  ·simp
  ·rw [one b hb];exact nF _
 ·have T4:=mZ T0 {cls:=.type "str_ascii_iterator",data:=.fields #[.str u t,.int 0 0]} T0.toks
  refine wpAny_pyIter_ascii ha ⟨T0,_,[T0.heap.objs.size],_,rfl,t6 (Walks.strAscii hh T0.heap.objs.size u t) (λz h=>h) (λb hb=>.inl hb) (λb hb=> ?_) (λi h st b hb=> ?_) ?_ (λj p v h Y e1 e2 k hY=>Fv e1 e2) (λj p v s Q E hj hv st q=>bD (rfl:cS (.Name _ px) _ v=bG ()) q),⟨⟨_,au _ rfl,rfl,rfl⟩,λb o e=>mG T4 _ _ (bU _ e)⟩,T2,T4,λb hb=> ?_⟩
  ·rw [one b hb];exact ph (nF _)
  ·rw [one b hb];exact qL st
  ·simp
  ·rw [one b hb];exact nF _
structure EP (prog:aH) (w:av) (φ:Fs) (e:Expr) (T:String) (ps:List PV):Prop where
 run: ∀s:aq,φ.I s.heap-> ∀Q:ay->aq->Prop,(∀s' vs,bB s s'->mK φ.X s'.heap ps vs->aC (aI prog w) φ.A (ft (.type T) vs) Q (λz z=>False) s')->aC (aI prog w) φ.A (bJ e φ.env) Q (λz z=>False) s
theorem s9 {id:Str} (hf:Ev prog w (fs c σ Λ) (.Name id np) (.raw (.type T))) (ha:tG prog w (fs c σ Λ) pos (e::es) ps)
  (he:autoParam (aE (e::es) c.env=(false,bJ e c.env)::aE es c.env) XZ):EP prog w (fs c σ Λ) (.Call (.Name id np) (e::es) [] pos) T ps:=.mk λs i Q h=>by
 refine cm (ab (hf.run s i) (λv T0 uu=>eA uu λT2 T5=> ?_) λz z e=>e)
 subst T5
 refine nI (qp (ab (ha.run T0 (i.mono (mG T2))) (λvs T3 uu=>eA uu λT4 Uh=> ?_) λz z e=>e) he)
 exact ⟨uh,h T3 vs (mH T2 T4) Uh⟩
theorem yZ {n:Nat}
  (he: ∀s:aq,(fs c σ Λ).I s.heap->aC (aI prog w) c.A (bJ iter c.env) (λv s'=>bB s s'/\ ∃r t u z,v= .ref r/\IsRange s'.heap r a b 1 t u z) (λy y=>False) s)
  (hn:ji a b 1=(n:Int)) (hs:jH a b 1=ai) (hh:c.A.handled=az):uy prog w c σ Λ own (.Name x px) iter ((ag n).map λ(i:Nat)=>.int (a+i)):=.mk λs i=>by
 refine ab (he s i) (λx T0 uu=>eA uu λT2 T5=> ?_) λy y e=>e
 refine Qi T5 ?_;clear T5;intro r t u z T1 hr;obtain rfl:=T1
 have one: ∀b∈[T0.heap.objs.size],b=T0.heap.objs.size:=λb hb=>ak.mp hb
 have T4:=mZ T0 {cls:=.type "range_iterator",data:=.fields #[eQ a,eQ (ji a b 1),eQ 1]} T0.toks
 refine wpAny_pyIter_range hr hs ⟨T0,_,[T0.heap.objs.size],_,rfl,t6 (Walks.range hh T0.heap.objs.size a 1 n) (λz h=>h) (λb hb=>.inl hb) (λb hb=> ?_) (λi h st b hb=> ?_) ?_ (λj p v h Y e1 e2 k hY=> ?_) (λj p v s Q E hj hv st q=>bD (rfl:cS (.Name _ px) _ v=bG ()) q),⟨?_,λb o e=>mG T4 _ _ (bU _ e)⟩,T2,T4,λb hb=> ?_⟩
 ·rw [one b hb];exact ph (nF _)
 ·rw [one b hb];exact ⟨_,st,λv q=>nomatch q⟩
 ·simp
 ·obtain ⟨t,rfl⟩:=e2
  rw [a7] at e1
  refine mR (dT.mp e1) λk hk T1=> ?_;obtain rfl:=T1
  have:=aT.mp hk
  refine eE this ?_;clear this;intro _ T1;obtain rfl:=T1
  exact ⟨t,by simp⟩
 ·rw [hn]
  have:=au T0.heap (o:={cls:=.type "range_iterator",data:=.fields #[eQ a,eQ n,eQ 1]}) rfl
  simpa using this
 ·rw [one b hb];exact nF _
theorem Dk (h:EP prog w (fs c σ Λ) e "range" [.int n]): ∀s:aq,(fs c σ Λ).I s.heap->aC (aI prog w) c.A (bJ e c.env) (λv s'=>bB s s'/\ ∃r t u z,v= .ref r/\IsRange s'.heap r 0 n 1 t u z) (λz z=>False) s:=λs i=>
 h.run s i _ λs' vs k r=>by
  refine nh r ?_;clear r;intro v us T1 r q;obtain rfl:=T1
  subst q
  refine eE r ?_;clear r;intro t T1;obtain rfl:=T1
  exact call_range_1 ⟨mH k (mZ s' _ _),_,_,_,_,rfl,au _ rfl⟩
theorem JQ (h:EP prog w (fs c σ Λ) e "range" [.int m,.int n]): ∀s:aq,(fs c σ Λ).I s.heap->aC (aI prog w) c.A (bJ e c.env) (λv s'=>bB s s'/\ ∃r t u z,v= .ref r/\IsRange s'.heap r m n 1 t u z) (λz z=>False) s:=λs i=>
 h.run s i _ λs' vs k r=>by
  refine nh r ?_;clear r;intro v us T1 r q;obtain rfl:=T1
  refine nh q ?_;clear q;intro v' Ww T1 r' q;obtain rfl:=T1
  subst q
  refine eE r ?_;clear r;intro t T1;obtain rfl:=T1
  refine eE r' ?_;clear r';intro t' T1;obtain rfl:=T1
  exact call_range_2 ⟨mH k (mZ s' _ _),_,_,_,_,rfl,au _ rfl⟩
theorem KO (he:EP prog w (fs c σ Λ) iter "enumerate" [.list ps]) (hh:c.A.handled=az) (ho: ∀b∈own,b∈c.X):
  uy prog w c σ Λ own (.Tuple Vd ek epos) iter ((ps.mapIdx λi p=>[.int i,p]).map .tup):=.mk λs i=>by
 refine he.run s i _ λT0 vs T2 r=> ?_
 refine nh r ?_;clear r;intro v us T1 r q;obtain rfl:=T1
 subst q
 refine ni r ?_;clear r;intro a vs T1 ha hl hr;obtain rfl:=T1
 have hr:mK c.X T0.heap ps vs:=hr
 have hn:a∉own:=λq=>ha (ho a q)
 refine mR (id hl) λo e1 e2=> ?_
 have lt: @ky Nat _ a T0.heap.objs.size:=aR e1
 have ga:(hideAll T0.heap own).get? a=aa o:=bS _ e1 hn
 refine call_enumerate_list hl λh' hE hI hz hk=> ?_
 refine wpAny_pyIter_enum hE ?_
 have T4:bB T0 {T0 with heap:=h'}:=⟨h',T0.toks,rfl,hk⟩
 refine ⟨T0,_,[T0.heap.objs.size+1,T0.heap.objs.size],_,rfl,yh (WalksT.enumerate hh (T0.heap.objs.size+1) T0.heap.objs.size a (pb (by exact my (.o (.b (.a xA xI) xA) (.b xA (.a xA xI))) [_])) (pb (by exact (my (.i (.b xA xB) (.o (.b xA (.a xB xI)) (.b (.a xB xI) xA))) [_,_]) lt)) (pb (by exact (my (.i (.b xA xB) (.o (.b xA xB) (.b xB xA))) [_,_]) lt)) vs.toArray) (λy h=>h) (λb hb=> ?_) (λb hb=> ?_) (λi h st b hb=> ?_) ?_ (λj p v h Y e1 e2 k hY=> ?_),
  ⟨⟨⟨_,hE⟩,hI,hl.at (λo e=>hk _ o e)⟩,λb o e=>hk _ _ (bU _ e)⟩,T2,T4,λb hb=> ?_⟩
 ·simp at hb
  rcases hb with rfl|rfl|rfl
  ·exact .inl (.head _)
  ·exact .inl (.tail _ (.head _))
  ·exact .inr ⟨o,ga⟩
 ·simp at hb
  rcases hb with rfl|rfl
  ·exact ph (n6 (by exact my (.l xA (.a xA xI)) [_]))
  ·exact ph (n6 (by exact my (.l xA xA) [_]))
 ·simp at hb
  rcases hb with rfl|rfl
  ·obtain ⟨⟨old,q⟩,_⟩:=st;exact ⟨_,q,λv z=>nomatch z⟩
  ·exact qL st.2.1
 ·rw [bo,hr.len,lU]
 ·obtain ⟨t,x,q,rfl⟩:=e2
  rw [kZ] at e1
  refine mR (dT.mp e1) λp' hp T1=> ?_;obtain rfl:=T1
  exact mK.cons (by exact ⟨t,rfl⟩) (mK.cons (mP.keep k ((hr.get' hp q |>.keepX (so ho)).sub hY)) mK.nil)
 ·simp at hb
  rcases hb with rfl|rfl
  ·exact n6 (by exact my (.l xA (.a xA xI)) [_])
  ·exact n6 (by exact my (.l xA xA) [_])
theorem Hw (he:EP prog w (fs c σ Λ) iter "zip" [.list ps,.list qs]) (hh:c.A.handled=az) (ho: ∀b∈own,b∈c.X):
  uy prog w c σ Λ own (.Tuple Vd ek epos) iter ((jg (λp q=>[p,q]) ps qs).map .tup):=.mk λs i=>by
 refine he.run s i _ λT0 vs T2 r=> ?_
 refine nh r ?_;clear r;intro v us T1 r q;obtain rfl:=T1
 refine nh q ?_;clear q;intro v' Ww T1 r' q;obtain rfl:=T1
 subst q
 refine ni r ?_;clear r;intro a vs T1 ha hl hr;obtain rfl:=T1
 refine ni r' ?_;clear r';intro b' ws T1 hb' We WE;obtain rfl:=T1
 have hr:mK c.X T0.heap ps vs:=hr
 have WE:mK c.X T0.heap qs ws:=WE
 refine mR (id hl) λo e1 e2=> ?_
 refine mR (id We) λo' e1' V3=> ?_
 have lt: @ky Nat _ a T0.heap.objs.size:=aR e1
 have lt': @ky Nat _ b' T0.heap.objs.size:=aR e1'
 have ga:(hideAll T0.heap own).get? a=aa o:=bS _ e1 (λq=>ha (ho a q))
 have gb:(hideAll T0.heap own).get? b'=aa o':=bS _ e1' (λq=>hb' (ho b' q))
 refine call_zip_2 hl We λh' hz Xi Vk hI hI' hsz hk=> ?_
 refine wpAny_pyIter_zip hz ?_
 have T4:bB T0 {T0 with heap:=h'}:=⟨h',T0.toks,rfl,hk⟩
 generalize hN:T0.heap.objs.size=N at*
 refine ⟨T0,_,[N+4,N+2,N+3,N,N+1],_,rfl,yh (WalksT.zip2 hh (N+4) (N+2) (N+3) N (N+1) a b' ⟨pb (by exact my (.o (.b (.a xA xM) (.a xA xK)) (.b (.a xA xK) (.a xA xM))) [_]),pb (by exact my (.o (.b (.a xA xO) (.a xA xK)) (.b (.a xA xK) (.a xA xO))) [_]),pb (by exact my (.o (.b xA (.a xA xK)) (.b (.a xA xK) xA)) [_]),pb (by exact my (.o (.b (.a xA xI) (.a xA xK)) (.b (.a xA xK) (.a xA xI))) [_]),pb (by exact my (.o (.b (.a xA xM) (.a xA xO)) (.b (.a xA xO) (.a xA xM))) [_]),pb (by exact my (.o (.b (.a xA xM) xA) (.b xA (.a xA xM))) [_]),pb (by exact my (.o (.b (.a xA xM) (.a xA xI)) (.b (.a xA xI) (.a xA xM))) [_]),pb (by exact my (.o (.b (.a xA xO) xA) (.b xA (.a xA xO))) [_]),pb (by exact my (.o (.b (.a xA xO) (.a xA xI)) (.b (.a xA xI) (.a xA xO))) [_]),pb (by exact my (.o (.b xA (.a xA xI)) (.b (.a xA xI) xA)) [_]),pb (by exact (my (.i (.b xA xB) (.o (.b xA (.a xB xK)) (.b (.a xB xK) xA))) [_,_]) lt),pb (by exact (my (.i (.b xA xB) (.o (.b xA (.a xB xO)) (.b (.a xB xO) xA))) [_,_]) lt),pb (by exact (my (.i (.b xA xB) (.o (.b xA xB) (.b xB xA))) [_,_]) lt),pb (by exact (my (.i (.b xA xB) (.o (.b xA (.a xB xI)) (.b (.a xB xI) xA))) [_,_]) lt),pb (by exact (my (.i (.b xA xB) (.o (.b xA (.a xB xK)) (.b (.a xB xK) xA))) [_,_]) lt'),pb (by exact (my (.i (.b xA xB) (.o (.b xA (.a xB xO)) (.b (.a xB xO) xA))) [_,_]) lt'),pb (by exact (my (.i (.b xA xB) (.o (.b xA xB) (.b xB xA))) [_,_]) lt'),pb (by exact (my (.i (.b xA xB) (.o (.b xA (.a xB xI)) (.b (.a xB xI) xA))) [_,_]) lt')⟩ vs.toArray ws.toArray) (λb hb=> ?_) (λb hb=> ?_) (λb hb=> ?_) (λi h st b hb=> ?_) ?_ (λj p v h Y e1 e2 k hY=> ?_),
  ⟨⟨hz,Xi,⟨_,_,Vk⟩,hI,hI',hl.at (λo e=>hk _ o e),We.at (λo e=>hk _ o e)⟩,λb o e=>hk _ _ (bU _ e)⟩,T2,T4,λb hb=> ?_⟩
 ·simp at hb ⊢;rcases hb with rfl|rfl|rfl|rfl<;>simp
 ·simp at hb
  rcases hb with rfl|rfl|rfl|rfl|rfl|rfl|rfl
  ·exact .inl (by simp)
  ·exact .inl (by simp)
  ·exact .inl (by simp)
  ·exact .inl (by simp)
  ·exact .inl (by simp)
  ·exact .inr ⟨o,ga⟩
  ·exact .inr ⟨o',gb⟩
 ·refine ph (n6 ?_)
  simp at hb
  rcases hb with rfl|rfl|rfl|rfl|rfl<;>first|exact gh hN|exact ch (gh hN) (jE ..)
 ·obtain ⟨a1,a2,⟨_,_,a3⟩,a4,a5,_⟩:=st
  simp at hb
  rcases hb with rfl|rfl|rfl|rfl|rfl
  ·exact ⟨_,a1,λv z=>nomatch z⟩
  ·exact ⟨_,a2,λv z=>nomatch z⟩
  ·exact ⟨_,a3,λv z=>nomatch z⟩
  ·exact qL a4
  ·exact qL a5
 ·simp [hr.len,WE.len]
 ·refine nh e2 ?_;clear e2;intro x y q q' T1;obtain rfl:=T1
  rw [kT] at e1
  cases h1:ps[j]? with
  |none=>rw [h1] at e1;exact nE e1
  |some p1=>
   cases h2:qs[j]? with
   |none=>rw [h1,h2] at e1;exact nE e1
   |some p2=>
    rw [h1,h2] at e1;obtain rfl:=am e1
    exact mK.cons (mP.keep k ((hr.get' h1 q |>.keepX (so ho)).sub hY)) (mK.cons (mP.keep k ((WE.get' h2 q' |>.keepX (so ho)).sub hY)) mK.nil)
 ·refine n6 ?_
  simp at hb
  rcases hb with rfl|rfl|rfl|rfl|rfl<;>first|exact gh hN|exact ch (gh hN) (jE ..)
theorem IS (hh:A.handled=az) (hx:sA c x) (hy:sA c y) (hk:c.env.scope.kind= .function)
  (i:In c σ Λ s.heap) (r:mP c.X s.heap (.tup [p,q]) v):
  aC (aI prog w) A (lX (.Tuple [.Name x px,.Name y py] k pos) c.env v) (λz s'=>nB s s'/\In c ((y,q)::(x,p)::σ) Λ s'.heap/\oH c.own s.heap s'.heap) (λz z=>False) s:=by
 refine ni r ?_;clear r;intro T vs T1 nT tT r;obtain rfl:=T1
 refine nh r ?_;clear r;intro a us T1 ra r;obtain rfl:=T1
 refine nh r ?_;clear r;intro b Ww T1 rb r;obtain rfl:=T1
 subst r
 refine wpAny_assign_Tuple hh tT rfl rfl λh' hE=> ?_
 have kk:mU s.heap h':=λb o e=>hE b o (dj (aR e)) e
 have T9:=i.mono kk
 refine ae (bL (dM (ab (rC (s:={s with heap:=h'}) T9 hx (mP.keep kk ra) hk) (λz T3 uu=>rQ uu λUD T7 T4=> ?_) λz z e=>e)))
 refine ae (bL (dM (ab (rC T7 hy ((mP.keep kk rb).keepX λb o nb e=>T4 b o (λq=>nb (ax _ q)) e) hk) (λz Ua uu=>rQ uu λUL Ui Uc=> ?_) λz z e=>e)))
 exact aj ⟨(nB.trans ⟨h',s.toks,rfl⟩ (UD.trans UL)),Ui,λb o nb e=>Uc b o nb (T4 b o nb (kk _ _ e))⟩
theorem qS (hh:c.A.handled=az) (hx:autoParam (sA c x) XJ) (hy:autoParam (sA c y) XJ) (hk:autoParam (c.env.scope.kind= .function) XZ):
  zj prog w c (.Tuple [.Name x px,.Name y py] k pos) (.tup [p,q]) [(y,q),(x,p)]:=λσ Λ s v i r=>IS hh hx hy hk i r
end
end
section
open PySem.Calls PyProof.Rows PySem.Builtin.Str
section
variable {prog:aH} {w:av} {φ:Fs} {A:aX} {X:List aF} {I:aW->Prop}
theorem mQ (h:Ev prog w φ e p) (e':p=q):Ev prog w φ e q:=e'▸h
theorem te (h:n0 prog w A X t p q r) (e:r=r'):n0 prog w A X t p q r':=e▸h
theorem qw (h:pV prog w A X I f ps p) (e:p=q):pV prog w A X I f ps q:=e▸h
theorem m6 (h:x=S l):Ev prog w φ (.Constant (.str x) k pos) (.str (S l)):=h▸JY
theorem qJ (r:mK X h [p] vs): ∃v,vs=[v]/\mP X h p v:=by
 refine nh r ?_;clear r;intro v us T1 a b;obtain rfl:=T1
 subst b
 exact ⟨v,rfl,a⟩
theorem sN (r:mK X h [p,q] vs): ∃v u,vs=[v,u]/\mP X h p v/\mP X h q u:=by
 refine nh r ?_;clear r;intro v us T1 a b;obtain rfl:=T1
 refine mR (qJ b) λu T1 c=> ?_;obtain rfl:=T1
 exact ⟨v,u,rfl,a,c⟩
theorem zS (r:mK X h [p,q,r'] vs): ∃v u z,vs=[v,u,z]/\mP X h p v/\mP X h q u/\mP X h r' z:=by
 refine nh r ?_;clear r;intro v us T1 a b;obtain rfl:=T1
 refine nh (sN b) λu z T1 c d=> ?_;obtain rfl:=T1
 exact ⟨v,u,z,rfl,a,c,d⟩
theorem nt (r:mP X h (.str x) v): ∃t,v= .str x t:=by exact r
theorem tB (r:mP X h (.int i) v): ∃t,v= .int i t:=by exact r
theorem L0 (r:mP X h (.bool i) v):v= .bool i:=by exact r
theorem pD (r:mP X h (.list l) v): ∃a vs,v= .ref a/\a∉X/\h.IsList a vs.toArray/\mK X h l vs:=by exact r
theorem OU (r:mP X h (.tup l) v): ∃a vs,v= .ref a/\a∉X/\IsTup h a vs.toArray/\mK X h l vs:=by exact r
theorem oh:mP X h (.str x) (.str x t):=by exact ⟨t,rfl⟩
theorem tH:mP X h (.int x) (.int x t):=by exact ⟨t,rfl⟩
theorem uJ:mP X h (.bool x) (.bool x):=by rfl
theorem Ce:mP X h .none .none:=by rfl
theorem o9:mP X h (.raw v) v:=by rfl
theorem uD (ha:a∉X) (hl:h.IsList a vs.toArray) (r:mK X h l vs):mP X h (.list l) (.ref a):=by exact ⟨a,vs,rfl,ha,hl,r⟩
theorem Eg (ha:a∉X) (hl:IsTup h a vs.toArray) (r:mK X h l vs):mP X h (.tup l) (.ref a):=by exact ⟨a,vs,rfl,ha,hl,r⟩
theorem oA (s:aq) (k:Nat):bB s {s with toks:=k}:=⟨_,_,rfl,λz z e=>e⟩
theorem uG (lx:n7 X s.heap) (r:mK X s.heap l vs):
  bB s {s with heap:=s.heap.push {cls:=.type "list",data:=.seq vs.toArray},toks:=tk}/\mP X (s.heap.push {cls:=.type "list",data:=.seq vs.toArray}) (.list l) (.ref s.heap.objs.size):=
 ⟨mZ s _ tk,uD (oP lx) ⟨_,au _ rfl,rfl,_,rfl⟩ (mK.keep (mG (mZ s _ tk)) r)⟩
theorem EL (hr:(decide (k< -(2^63:Int))||decide (k>=2^63))=false) (hp:(jd k l.length).bind (l[·]?)=aa x):
  n0 prog w A X (dS value Uw) (.str (S l)) (.int k) (.str (S [x])):=λs a y z r q=>by
 obtain ⟨t,rfl⟩:=nt r;obtain ⟨u,rfl⟩:=tB q
 refine vG (dR _ _ _) PySem.F.slot_str_getitem.lookup (P.getItem_str hr (c:=x) ?_ (vd rfl))
 rw [mW];simpa using hp
theorem tI (hp:l.getLast? =aa x):n0 prog w A X (dS value Uw) (.str (S l)) (.int (-1)) (.str (S [x])):=
 EL rfl (by
  rw [j3] at hp
  have hl:0<l.length:=by
   cases l with
   |nil=>simp at hp
   |cons=>simp
  have:jd (-1) l.length=aa (l.length - 1):=by
   unfold jd
   simp
   exact (my (.i (.b xJ xA) (.a (.a (.L xJ (.a (.g xI) (.k xA))) (.B (.a (.g xI) (.k xA)) (.k xA))) (.e (.t (.a (.g xI) (.k xA))) (.s xA xI)))) [_]) hl
  rw [this];exact hp)
noncomputable def qY {α:Type} (l:List α) (lo hi:Option Int):List α:=(l.drop (lo.elim 0 (dQ l.length))).take (hi.elim l.length (dQ l.length) - lo.elim 0 (dQ l.length))
theorem mK.drop: ∀{ps:List PV} {vs:List ay} (n:Nat),mK X h ps vs->mK X h (ps.drop n) (vs.drop n)
 |ps,vs,0,r=>r
 |[],vs,n+1,r=>by subst r;simpa using mK.nil
 |p::ps,vs,n+1,r=>by
  refine nh r ?_;clear r;intro v us T1 a b;obtain rfl:=T1
  exact b.drop n
theorem mK.take: ∀{ps:List PV} {vs:List ay} (n:Nat),mK X h ps vs->mK X h (ps.take n) (vs.take n)
 |ps,vs,0,r=>by simpa using mK.nil
 |[],vs,n+1,r=>by subst r;simpa using mK.nil
 |p::ps,vs,n+1,r=>by
  refine nh r ?_;clear r;intro v us T1 a b;obtain rfl:=T1
  exact mK.cons a (b.take n)
theorem mK.cut {h:aW} {ps:List PV} {vs:List ay} (r:mK X h ps vs) (lo hi:Option Int):mK X h (qY ps lo hi) (qY vs lo hi):=by
 unfold Mine.qY
 rw [r.len]
 exact (r.drop _).take _
theorem yy (vs:List ay) (lo hi:Option Int):slicePick vs.toArray lo hi az=(qY vs lo hi).toArray:=by
 rw [slicePick_plain]
 simp [qY]
theorem ze (lo hi:Option Int) (n:Nat):kf lo hi 1 n=(ag (hi.elim n (dQ n) - lo.elim 0 (dQ n))).map (lo.elim 0 (dQ n)+ ·):=by
 have:=sliceBounds_plain lo hi n
 have e:kf lo hi 1 n=sliceRange (sliceBounds lo hi az n).1 (sliceBounds lo hi az n).2.1 1:=by
  cases lo<;>cases hi<;>rfl
 rw [e,this,sliceRange_one]
theorem JS (l:List Nat) (a:Nat): ∀n,a+n<=l.length->((ag n).map (a+ ·)).filterMap (l[·]?)=(l.drop a).take n:=by
 intro n
 induction n with
 |zero=>intro _;rfl
 |succ n ih=>
  intro h
  rw [cy,bi,List.filterMap_append,ih (by exact (my (.i (.l (.a xA (.a xB xI)) xC) (.l (.a xA xB) xC)) [_,_,_]) h),dH (by rw [bH];exact (my (.i (.l (.a xC (.a xA xI)) xB) (.b xA (.s xB xC))) [_,_,_]) h)]
  congr 1
  simp only [ba,gV,List.filterMap_cons,List.filterMap_nil]
  rw [aA (by exact (my (.i (.l (.a xA (.a xB xI)) xC) (.b (.a xA xB) xC)) [_,_,_]) h),jh]
theorem Dy (l:List Nat) (lo hi:Option Int):Txt.slice (S l) lo hi=S (qY l lo hi):=by
 have hc: ∀k,dQ l.length k<=l.length:=λk=>by
  have:=clipAt_cast l.length k
  split at this<;>(first|exact (my (.i (.E (.k xA) (.x xJ (.n (.a xA (.k xB)) (.k xB)))) (.l xA xB)) [_,_] [_]) this|exact (my (.i (.E (.k xA) (.x xJ (.n xA (.k xB)))) (.l xA xB)) [_,_] [_]) this)
 have ha:lo.elim 0 (dQ l.length)<=l.length:=by cases lo<;>simp [hc]
 have hb:hi.elim l.length (dQ l.length)<=l.length:=by cases hi<;>simp [hc]
 have e:(kf lo hi 1 (S l).length).filterMap ((S l).cps[·]?)=qY l lo hi:=by
  rw [mW,ze]
  simp only [kU]
  rw [JS l _ _ (by exact (my (.i (.l xA xC) (.i (.l xB xC) (.l (.a xA (.s xB xA)) xC))) [_,_,_]) ha hb)]
  rfl
 unfold Txt.slice
 rw [e]
 split
 ·rename_i h
  simp only [beq_self_eq_true,Bool.true_and,beq_iff_eq] at h
  rw [mW,ze,ah,be] at h
  have h0:lo.elim 0 (dQ l.length)=0/\hi.elim l.length (dQ l.length)=l.length\/l.length=0:=by exact (my (.i (.l xB xC) (.i (.e (.s xB xA) xC) (.o (.a (.e xA xJ) (.e xB xC)) (.e xC xJ)))) [_,_,_]) hb h
  rcases h0 with ⟨h1,h2⟩|h0
  ·show S l=S _
   unfold qY
   rw [h1,h2];simp
  ·have:l=[]:=cC h0
   subst this
   unfold qY;simp
 ·rfl
structure yV (prog:aH) (w:av) (φ:Fs) (e:Option Expr) (k:Option Int):Prop where
 run: ∀s:aq,φ.I s.heap->aC (aI prog w) φ.A (evalPart e φ.env) (λv s'=>bB s s'/\ ∃kt:Option (Int×Tok),v=cK kt/\kt.map (·.1)=k) (λz z=>False) s
theorem rG:yV prog w φ az az:=.mk λs z=>aj ⟨mO _,az,rfl,rfl⟩
theorem nY (h:Ev prog w φ e (.int i)):yV prog w φ (aa e) (aa i):=.mk λs i=>ab (h.run s i) (λv s' uu=>eA uu λk r=>by
 refine eE (tB r) λt T1=> ?_;obtain rfl:=T1
 exact ⟨k,aa (_,t),rfl,rfl⟩) λz z e=>e
theorem qv {lo hi:Option Int} (hv:Ev prog w φ value (.str (S l))) (hl:yV prog w φ lower lo) (hu:yV prog w φ upper hi)
  (hsz:l.length<=bn) (ht:autoParam (∀o r,i8 value o r=bG ()) X2):Ev prog w φ (.Subscript value (.Slice lower upper az p) pos) (.str (S (qY l lo hi))):=.mk λs i=>by
 refine wpAny_Subscript_str_slice (ab (hv.run s i) (λv T0 uu=>eA uu λT2 T5=>ab (hl.run T0 (φ.mono' i T2)) (λvl T3 uu=>oV uu λT4 lt e2 V3=>ab (hu.run T3 (φ.mono' i (mH T2 T4))) (λvu Ua uu=>oV uu λUc ut e3 Xr=> ?_) λz z e=>e) λz z e=>e) λz z e=>e) ht
 refine eE (nt T5) λt T1=> ?_;obtain rfl:=T1
 have kk:=mH T2 (mH T4 Uc)
 refine ⟨S l,t,lt,ut,rfl,e2,e3,?_⟩
 refine post_val_or_str ⟨ch (Txt.slice_le (S l) _ _) (by rw [mW];exact hsz),λt' k=> ?_⟩
 have e:Txt.slice (S l) (lt.map (·.1)) (ut.map (·.1))=S (qY l lo hi):=by rw [V3,Xr,Dy]
 refine ⟨mH kk (mZ _ _ k),?_⟩
 show mP _ _ (.str (S (qY l lo hi))) (.str (Txt.slice (S l) (lt.map (·.1)) (ut.map (·.1))) t')
 rw [e];exact oh
theorem xa (h:kt.map (·.1)=k):IsPart (cK kt) k:=by
 cases kt with
 |none=>subst h;exact .none
 |some q=>subst h;exact .int _ _
end
section
variable {prog:aH} {w:av} {A:aX} {X:List aF} {I:aW->Prop}
theorem vf (hfit:gx (Txt.lower x).length=false):pV prog w A X I (.builtin "str.lower") [.str x] (.str (Txt.lower x)):=λs vs z z r=>by
 refine mR (qJ r) λv T1 r1=> ?_;obtain rfl:=T1;obtain ⟨t,rfl⟩:=nt r1
 exact SC.lower hfit ⟨pg _ _,oh⟩
theorem wi (hfit:gx (Txt.swapcase x).length=false):pV prog w A X I (.builtin "str.swapcase") [.str x] (.str (Txt.swapcase x)):=λs vs z z r=>by
 refine mR (qJ r) λv T1 r1=> ?_;obtain rfl:=T1;obtain ⟨t,rfl⟩:=nt r1
 exact SC.swapcase hfit ⟨pg _ _,oh⟩
theorem Im (hsz:x.length<=bn):pV prog w A X I (.builtin "str.rstrip") [.str x] (.str (Txt.rstrip x)):=λs vs z z r=>by
 refine mR (qJ r) λv T1 r1=> ?_;obtain rfl:=T1;obtain ⟨t,rfl⟩:=nt r1
 exact SC.rstrip (λt' k=>⟨oA _ _,oh⟩) hsz
theorem E8:pV prog w A X I (.builtin "str.endswith") [.str x,.str y] (.bool (Txt.endswith x y)):=λs vs z z r=>by
 refine nh (sN r) λv u T1 r1 r2=> ?_;obtain rfl:=T1;refine eE (nt r1) λt T1=> ?_;obtain rfl:=T1;refine eE (nt r2) λt T1=> ?_;obtain rfl:=T1
 exact SC.endswith ⟨mO _,uJ⟩
theorem zX: ∀{xs:List Str} {vs:List ay},mK X h (xs.map .str) vs-> ∃l:List (Str×Tok),vs=c8 l/\l.map (·.1)=xs
 |[],vs,r=>by subst r;exact ⟨[],rfl,rfl⟩
 |x::xs,vs,r=>by
  refine nh r ?_;clear r;intro v us T1 a b;obtain rfl:=T1
  refine eE (nt a) λt T1=> ?_;obtain rfl:=T1
  refine mR (zX b) λl T1 e=> ?_;obtain rfl:=T1
  exact ⟨(x,t)::l,rfl,by rw [ba,e]⟩
theorem z6: ∀{l:List (Str×Tok)},mK X h ((l.map (·.1)).map .str) (c8 l)
 |[]=>mK.nil
 |p::l=>mK.cons oh z6
theorem v4 (hok:JoinOk x xs=ai):pV prog w A X I (.builtin "str.join") [.str x,.list (xs.map .str)] (.str (Txt.join x xs)):=λs vs z z r=>by
 refine nh (sN r) λv u T1 r1 r2=> ?_;obtain rfl:=T1;refine eE (nt r1) λt T1=> ?_;obtain rfl:=T1
 refine ni (pD r2) λD us T1 z hl hr=> ?_;obtain rfl:=T1
 refine mR (zX hr) λl T1 e=> ?_;obtain rfl:=T1
 exact SC.join hl e hok λt' k=>⟨oA _ _,oh⟩
theorem tN (lx:n7 X s.heap) (e:l.map (·.1)=xs):
  bB s {s with heap:=s.heap.push {cls:=.type "list",data:=.seq (c8 l).toArray},toks:=tk}/\
   mP X (s.heap.push {cls:=.type "list",data:=.seq (c8 l).toArray}) (.list (xs.map .str)) (.ref s.heap.objs.size):=by
 subst e
 exact uG (tk:=tk) lx z6
theorem xk (hsz:x.length+1<=bn):pV prog w A X I (.builtin "str.splitlines") [.str x] (.list ((Txt.lines x).map .str)):=λs vs z lx r=>by
 refine mR (qJ r) λv T1 r1=> ?_;obtain rfl:=T1;refine eE (nt r1) λt T1=> ?_;obtain rfl:=T1
 have e:=lineCuts_le x
 refine gL F.slot_str_splitlines (dR _ _ _) F.entry_str_splitlines (F.args_str_splitlines_1 _) (meets_str_splitlines x t (by exact (my (.i (.l (.a xA xI) xB) (.l xA xB)) [_,_]) hsz) (by exact (my (.i (.l (.a xC xI) xB) (.i (.l xA (.a xC xI)) (.l xA xB))) [_,_,_]) hsz e)) ?_
 cases hw:lineCuts x==[(0,x.length)]
 ·simp only [a9,if_false]
  rw [strsFrom_eq]
  exact tN (l:=numbered s.toks (km x)) lx ((numbered_texts _ _).trans (if_neg (ne_true_of_eq_false hw)).symm)
 ·simp only [if_true]
  exact tN (l:=[(x,t)]) lx (if_pos hw).symm
theorem yS (hy:(y.length==0)=false) (hsz:x.length<=bn) (hsz2:(partsBetween x (j7 x y 0 x.length (x.length+1)) y.length).length<=bn):
  pV prog w A X I (.builtin "str.split") [.str x,.str y] (.list ((Txt.split x y).map .str)):=λs vs z lx r=>by
 refine nh (sN r) λv u T1 r1 r2=> ?_;obtain rfl:=T1;refine eE (nt r1) λt T1=> ?_;obtain rfl:=T1;refine eE (nt r2) λu T1=> ?_;obtain rfl:=T1
 cases h1:(decide (x.length<y.length)||decide (strKind x<strKind y))
 ·cases hf:(j7 x y 0 x.length (x.length+1)).isEmpty
  ·refine gL F.slot_str_split (dR _ _ _) F.entry_str_split (F.args_str_split_2 _ _) (meets_str_split_sep x y t u h1 hy hf hsz hsz2) ?_
   show wants _ _ _ {s with toks:=_,heap:=s.heap.push {cls:=.type "list",data:=.seq (strsFrom s.toks (partsBetween x (j7 x y 0 x.length (x.length+1)) y.length)).toArray}}
   rw [strsFrom_eq]
   exact tN (l:=numbered s.toks _) lx ((numbered_texts _ _).trans ((if_neg (ne_true_of_eq_false h1)).trans (if_neg (ne_true_of_eq_false hf))).symm)
  ·exact gL F.slot_str_split (dR _ _ _) F.entry_str_split (F.args_str_split_2 _ _) (meets_str_split_not_found x y t u h1 hy hf)
    (tN (l:=[(x,t)]) lx ((if_neg (ne_true_of_eq_false h1)).trans (if_pos hf)).symm)
 ·exact gL F.slot_str_split (dR _ _ _) F.entry_str_split (F.args_str_split_2 _ _) (meets_str_split_cannot_occur x y t u h1)
   (tN (l:=[(x,t)]) lx (if_pos h1).symm)
theorem uR (h:x.length<=1000000):pV prog w A X I (.builtin "len") [.str x] (.int x.length):=λs vs z z r=>by
 refine mR (qJ r) λv T1 r1=> ?_;obtain rfl:=T1;refine eE (nt r1) λt T1=> ?_;obtain rfl:=T1
 exact P.len_str (by exact (my (.i (.l xA (.c 1000000)) (.n (.L xS (.k xA)))) [_]) h) ⟨oA _ _,tH⟩
theorem r9 (h:l.length<=1000000):pV prog w A X I (.builtin "len") [.list l] (.int l.length):=λs vs z z r=>by
 refine mR (qJ r) λv T1 r1=> ?_;obtain rfl:=T1
 refine ni (pD r1) λD us T1 z hl hr=> ?_;obtain rfl:=T1
 have e:us.toArray.size=l.length:=by simp [hr.len]
 refine call_len_list hl (by rw [e];exact (my (.i (.l xA (.c 1000000)) (.B (.k xA) xS)) [_]) h) ?_
 rw [e]
 exact ⟨oA _ _,tH⟩
end
section
variable {prog:aH} {w:av} {c:Sc} {σ:mX} {Λ:List (aF×List PV)}
structure Lp (X:List aF) (p:PV) (T:String):Prop where
 is: ∀(s:aq) v,mP X s.heap p v->s.TypeIs v T
 noRef: ∀h v,mP X h p v-> ∀a,v≠ .ref a
theorem oj:Lp X (.str x) "str":=⟨λs v r=>by obtain ⟨t,rfl⟩:=nt r;exact dR _ _ _,λh v r a e=>by obtain ⟨t,rfl⟩:=nt r;cases e⟩
theorem rg {T id:String} (ho:Ev prog w (fs c σ Λ) o p) (hK:Lp c.X p T) (pa:jC T) (slot:Slot T name id)
  (VA:kz (.builtin id)=bG (.type "method_descriptor")) (ha:tG prog w (fs c σ Λ) pos (e::es) ps) (hc:pV prog w c.A c.X (In c σ Λ) (.builtin id) (p::ps) q)
  (Uq:autoParam (db o name c.env (bJ o c.env)=bJ o c.env) XZ)
  (U1:autoParam (((fb pos (aE (e::es) c.env)).all (λx=> !x.1)&&(cM pos (bR [] c.env)).all (λx=>x.1.isSome)
   &&decide ((e::es).length+([]:List eW).length+(if ([]:List eW).isEmpty then 0 else 1)<30))=ai) XZ)
  (Uv:autoParam ((apos.endLine==pos.line)=ai) XZ) (he:autoParam (aE (e::es) c.env=(false,bJ e c.env)::aE es c.env) XZ):
  Ev prog w (fs c σ Λ) (.Call (.Attribute o name apos) (e::es) [] pos) q:=.mk λs i=>
 dN Uq U1 Uv pa slot VA (ab (ho.run s i) (λov T0 uu=>eA uu λT2 T5=>⟨hK.is _ _ T5,λa e=>absurd e (hK.noRef _ _ T5 a),nI (qp (ab (ha.run T0 (i.mono (mG T2))) (λvs T3 uu=>eA uu λT4 Uh=>by
  have T7:=i.mono (mG (mH T2 T4))
  exact ⟨rj,ab (hc T3 (ov::vs) T7 T7.liveAll (mK.cons (T5.keep (mG T4)) Uh)) (λz z uu=>eA uu λUc Uj=>⟨mH T2 (mH T4 Uc),Uj⟩) λz z e=>e⟩) λz z e=>e) he)⟩) λz z e=>e)
theorem qW {T id:String} (ho:Ev prog w (fs c σ Λ) o p) (hK:Lp c.X p T) (pa:jC T) (slot:Slot T name id)
  (VA:kz (.builtin id)=bG (.type "method_descriptor")) (hc:pV prog w c.A c.X (In c σ Λ) (.builtin id) [p] q)
  (Uq:autoParam (db o name c.env (bJ o c.env)=bJ o c.env) XZ)
  (Uv:autoParam ((apos.endLine==pos.line)=ai) XZ):
  Ev prog w (fs c σ Λ) (.Call (.Attribute o name apos) [] [] pos) q:=.mk λs i=>
 dN Uq rfl Uv pa slot VA (ab (ho.run s i) (λov T0 uu=>eA uu λT2 T5=>⟨hK.is _ _ T5,λa e=>absurd e (hK.noRef _ _ T5 a),nI (wp (by
  have T7:=i.mono (mG T2)
  exact ⟨rj,ab (hc T0 [ov] T7 T7.liveAll (mK.cons T5 mK.nil)) (λz z uu=>eA uu λUc Uj=>⟨mH T2 Uc,Uj⟩) λz z e=>e⟩))⟩) λz z e=>e)
theorem su (he:Ev prog w (fs c σ Λ) e p) (ha:zj prog w c T8 p bs) (hb:mT prog w c.env c.A (In c (bs++σ) Λ) b J)
  (hs:autoParam (swapsWithSole [T8] e pos.line c.env=bG false) XZ) (hw:autoParam (swappedStores [T8] e c.env=bG az) XZ) (hm:autoParam (assignEach [T8] c.env=[(false,lX T8 c.env)]) XZ):
  mT prog w c.env c.A (In c σ Λ) (.Assign [T8] e pos::b) J:=
 qT (I':=In c (bs++σ) Λ) (λs i=>by
  refine wpAny_Assign_stores (ab (he.run s i) (λv T0 uu=>eA uu λT2 T5=> ?_) λz z e=>e) hs hw
  rw [hm]
  exact ab (ha σ Λ T0 v (i.mono (mG T2)) T5) (λz T3 uu=>rQ uu λUD T7 z=>⟨(nB.of T2).trans UD,T7⟩) λz z e=>e) hb
theorem tt (hp:σ.lookup x=aa p) (he:Ev prog w (fs c σ Λ) e q) (ho:n0 prog w c.A c.X (inplaceOp op) p q r)
  (hb:mT prog w c.env c.A (In c ((x,r)::σ) Λ) b J) (hx:autoParam (sA c x) XJ) (hk:autoParam (c.env.scope.kind= .function) XZ):
  mT prog w c.env c.A (In c σ Λ) (.AugAssign (.Name x px) op e pos::b) J:=
 qT (I':=In c ((x,r)::σ) Λ) (λs i=>by
  refine mR (i.look hp) λv L rv=> ?_
  refine wpAny_AugAssign_Name (va hk L (ab (he.run s i) (λu T0 uu=>eA uu λT2 T5=> ?_) λy y e=>e))
  have T9:=i.mono (mG T2)
  refine ab (ho T0 v u T9.liveAll (mP.keep (mG T2) rv) T5) (λz T3 uu=>eA uu λT4 Uh=> ?_) λz z e=>e
  exact ab (tY (T9.mono (mG T4)) hx Uh hk) (λz Ua uu=>eA uu λUL Ui=>⟨(nB.of (mH T2 T4)).trans UL,Ui⟩) λz z e=>e) hb
theorem EQ (h: ∀g,In c σ Λ g->J .cont g):mT prog w c.env c.A (In c σ Λ) (.Continue pos::b) J:=.mk λs i=>by
 rw [ci]
 exact ae (wpAny_Continue (aj ⟨nB.rfl' s,h _ i⟩))
noncomputable def Sc.addOwn (c:Sc) (D:aF):Sc:={c with own:=D::c.own}
theorem In.addOwn (i:In c σ Λ h) (k:mU h h') (hD:h.get? D=az) (hn: ∃vs,h'.PlainList D vs):In (c.addOwn D) σ Λ h':=by
 have sb: ∀b,b∈(c.addOwn D).X->(∃o,h.get? b=aa o)->b∈c.X:=λb hb uu=>eE uu λo e=>by
  rcases ao.mp hb with q|q
  ·subst q;rw [hD] at e;exact nE e
  ·exact q
 have i':=i.mono k
 refine ⟨i'.keep,λa ha=> ?_,λa ha=> ?_,i'.liveX,.tail _ i'.locOwn,?_,?_,i'.cob,i'.kinds,?_⟩
 ·rcases ao.mp ha with q|q
  ·subst q
   cases e:c.g.get? a with
   |none=>exact e
   |some o=>have:=i.keep _ _ e;rw [hD] at this;exact nE this
  ·exact i'.fresh a q
 ·rcases ao.mp ha with q|q
  ·subst q;refine rN hn λvs n e=> ?_;exact ⟨_,e⟩
  ·exact i'.live a q
 ·refine mR i.loc λm n r=> ?_
  exact ⟨m,n.at' λo e=>k _ _ e,λx p a b=>let ⟨v,e,q⟩:=r x p a b;⟨v,e,mP.keep k (q.sub sb)⟩⟩
 ·intro x p a b
  refine nh (i.cel x p a b) λcc v e q r=> ?_
  exact ⟨cc,v,e,q.keeps k,mP.keep k (r.sub sb)⟩
 ·intro q hq
  refine oV (i.lists q hq) λa vs b r=> ?_
  exact ⟨.tail _ a,vs,b.at λo e=>k _ _ e,mK.keep k (r.sub sb)⟩
theorem wZ (hb: ∀D,c.g.get? D=az->D∉c.X->mT prog w c.env c.A (In (c.addOwn D) ((x,.raw (.ref D))::σ) ((D,[])::Λ)) b J)
  (hx: ∀D,sA (c.addOwn D) x:=by exact λz=>.inl rfl) (hk:autoParam (c.env.scope.kind= .function) XZ) (hs:autoParam (cJ (.List [] lp) (aa (.Name x px)) pos.line c.env=bG false) XZ):
  mT prog w c.env c.A (In c σ Λ) (.Assign [.Name x px] (.List [] lp) pos::b) J:=.mk λs i=>by
 rw [ci]
 refine ae (cN (jB (cF ⟨by decide,?_⟩)) hs)
 have T9:In (c.addOwn s.heap.objs.size) σ ((s.heap.objs.size,[])::Λ) (s.heap.push {cls:=.type "list",data:=.seq #[]}):=by
  have j:=i.addOwn (mG (mZ s {cls:=.type "list",data:=.seq #[]} s.toks)) (nF _) ⟨#[],_,au _ rfl⟩
  refine {j with lists:=λq hq=> ?_}
  rcases ao.mp hq with e|e
  ·subst e;exact ⟨.head _,[],⟨_,au _ rfl⟩,mK.nil⟩
  ·exact j.lists q e
 have gD:c.g.get? s.heap.objs.size=az:=T9.fresh _ (.head _)
 refine ab (tY (c:=c.addOwn s.heap.objs.size) (s:={s with heap:=s.heap.push {cls:=.type "list",data:=.seq #[]}}) (p:=.raw (.ref s.heap.objs.size)) T9 (hx _) o9 hk) (λz T3 uu=>eA uu λUD T7=> ?_) λz z e=>e
 exact ab ((hb _ gD (oP i.liveAll)).run T3 T7) (λfl Ua uu=>eA uu λUL j=>⟨(nB.trans ⟨_,_,rfl⟩ (UD.trans UL)),j⟩) λz z e=>e
theorem In.push {h h':aW} (i:In c σ ((D,l)::Λ) h) (r:mP c.X h p v) (hl: ∀vs:List ay,h.PlainList D vs.toArray->h'.PlainList D (vs++[v]).toArray) (hs:cL D h h')
  (Uk: ∀q∈Λ,q.1≠D):In c σ ((D,l++[p])::Λ) h':=by
 refine oV (i.lists _ (.head _)) λhD vs pl rs=> ?_
 have VG:=hl vs pl
 have kx:oH c.X h h':=oH.of_same hs (ax _ hD)
 have lv: ∀a,(∃o,h.get? a=aa o)-> ∃o,h'.get? a=aa o:=λa uu=>eE uu λo e=>by
  by_cases q:a=D
  ·subst q;obtain ⟨_,e⟩:=VG;exact ⟨_,e⟩
  ·exact ⟨o,(hs.2 a q).trans e⟩
 refine ⟨λb o e=> ?_,i.fresh,λa ha=>lv a (i.live a ha),λa ha=>lv a (i.liveX a ha),i.locOwn,?_,λy q hk e=> ?_,λy a e=> ?_,i.kinds,λq hq=> ?_⟩
 ·rw [hs.2 b (λq=>by have:=i.fresh _ hD;rw [<-q,e] at this;exact tD this)];exact i.keep _ _ e
 ·refine mR i.loc λm n hm=> ?_
  exact ⟨m,n.at' λo e=>by rw [hs.2 _ (sM pl n).symm];exact e,λy q hk e=>let ⟨u,e',r'⟩:=hm y q hk e;⟨u,e',r'.keepX kx⟩⟩
 ·refine nh (i.cel y q hk e) λa u q1 q2 q3=> ?_
  exact ⟨a,u,q1,q2.sameBut hs (qG pl q2).symm,q3.keepX kx⟩
 ·obtain ⟨u,q⟩:=i.cob y a e
  exact ⟨u,q.sameBut hs (qG pl q).symm⟩
 ·rcases ao.mp hq with e|e
  ·subst e;exact ⟨hD,vs++[v],VG,mK.append (rs.keepX kx) (mK.cons (r.keepX kx) mK.nil)⟩
  ·refine oV (i.lists q (.tail _ e)) λa us b r'=> ?_
   exact ⟨a,us,b.at λo z=>by rw [hs.2 _ (Uk q e)];exact z,r'.keepX kx⟩
theorem CJ (i:In c σ ((D,l)::Λ) s.heap) (r:mP c.X s.heap p v) (Uk: ∀q∈Λ,q.1≠D) (hsz:l.length<=bn):
  aC (aI prog w) A (ft (.builtin "list.append") [.ref D,v]) (λz s'=>nB s s'/\In c σ ((D,l++[p])::Λ) s'.heap) (λz z=>False) s:=by
 refine oV (i.lists _ (.head _)) λhD vs pl rs=> ?_
 refine lN (hsz:=by rw [bo,rs.len];exact hsz) pl λh' hl hs=>⟨⟨_,_,rfl⟩,i.push r (λus pu=> ?_) hs Uk⟩
 refine eE pl λn e=> ?_
 refine eE pu λn' e'=> ?_
 rw [e] at e'
 have:vs=us:=by
  have q:=congrArg Obj.data (am e')
  injection q with q1 q2
  simpa using q1
 subst this
 simpa using hl
theorem BD (hy:σ.lookup y=aa (.raw (.ref D))) (he:Ev prog w (fs c σ ((D,l)::Λ)) e p) (hsz:l.length<=bn) (Uk: ∀q∈Λ,q.1≠D)
  (hb:mT prog w c.env c.A (In c σ ((D,l++[p])::Λ)) b J)
  (hi:autoParam (i6 c.env=false) XZ) (hs:autoParam (cJ (.Call (.Attribute (.Name y yp) ("append":Str) apos) [e] [] pos) az Vi.line c.env=bG false) XZ)
  (hd:autoParam ((y==("__debug__":Str))=false) XQ) (hk:autoParam (c.env.scope.kind= .function) XZ)
  (Uq:autoParam (db (.Name y yp) ("append":Str) c.env (bJ (.Name y yp) c.env)=bJ (.Name y yp) c.env) XZ)
  (U1:autoParam (((fb pos (aE [e] c.env)).all (λx=> !x.1)&&(cM pos (bR [] c.env)).all (λx=>x.1.isSome)
   &&decide ([e].length+([]:List eW).length+(if ([]:List eW).isEmpty then 0 else 1)<30))=ai) XZ)
  (Uv:autoParam ((apos.endLine==pos.line)=ai) XZ) (UT:autoParam (aE [e] c.env=(false,bJ e c.env)::aE [] c.env) XZ):
  mT prog w c.env c.A (In c σ ((D,l)::Λ)) (.Expr (.Call (.Attribute (.Name y yp) ("append":Str) apos) [e] [] pos) Vi::b) J:=
 qT (I':=In c σ ((D,l++[p])::Λ)) (λs i=>by
  refine mR (i.look hy) λv L rv=> ?_
  subst rv
  refine fM ?_ hi hs
  refine dN (T:="list") Uq U1 Uv PySem.F.plainAttrs_list PySem.F.slot_list_append PySem.F.type_list_append (jA (va hk L ?_) hd)
  obtain ⟨hD,vs,⟨n,pl⟩,rs⟩:=i.lists _ (.head _)
  refine ⟨⟨_,pl,rfl⟩,λa e=>by cases e;exact ⟨_,pl,rfl⟩,nI (qp ?_ UT)⟩
  refine cB (ab (he.run s i) (λu T0 uu=>eA uu λT2 T5=>cF ⟨rj,?_⟩) λz z e=>e) UT
  exact ab (CJ (i.mono (mG T2)) T5 Uk hsz) (λz T3 uu=>eA uu λUD T7=>⟨(nB.of T2).trans UD,T7⟩) λz z e=>e) hb
theorem yu (e:aD y ((x,p)::σ)=aa q):(y=x/\q=p)\/(y≠x/\σ.lookup y=aa q):=by
 by_cases hy:y=x
 ·subst hy;simp [aD] at e;exact .inl ⟨rfl,e.symm⟩
 ·have:(y==x)=false:=by simpa using hy
  simp [aD,this] at e;exact .inr ⟨hy,e⟩
theorem In.release (i:In (c.addOwn D) σ ((D,l)::Λ) h) (hx:σ.lookup x=aa (.raw (.ref D))) (Uk: ∀q∈Λ,q.1≠D) (hD:D∉c.X) (hc:c.env.locals∈c.own):In c ((x,.list l)::σ) Λ h:=by
 have sb: ∀b,b∈c.X->(∃o,h.get? b=aa o)->b∈(c.addOwn D).X:=λb hb z=>.tail _ hb
 obtain ⟨_,vs,⟨n,pl⟩,rs⟩:=i.lists _ (.head _)
 have rl:mP c.X h (.list l) (.ref D):=uD hD ⟨_,pl,rfl,_,rfl⟩ (rs.sub sb)
 refine ⟨i.keep,λa ha=>i.fresh a (.tail _ ha),λa ha=>i.live a (.tail _ ha),i.liveX,hc,?_,?_,i.cob,?_,?_⟩
 ·refine mR i.loc λm n r=> ?_
  refine ⟨m,n,λy p a b=> ?_⟩
  rcases yu b with ⟨rfl,rfl⟩|⟨_,b⟩
  ·refine mR (r y _ a hx) λv e q=> ?_
   subst q
   exact ⟨_,e,rl⟩
  ·refine mR (r y p a b) λv e q=> ?_;exact ⟨v,e,q.sub sb⟩
 ·intro y p a b
  rcases yu b with ⟨rfl,rfl⟩|⟨_,b⟩
  ·refine nh (i.cel y _ a hx) λcc v e q q'=> ?_
   subst q'
   exact ⟨cc,_,e,q,rl⟩
  ·refine nh (i.cel y p a b) λcc v e q r=> ?_
   exact ⟨cc,v,e,q,r.sub sb⟩
 ·intro y p b
  rcases yu b with ⟨rfl,rfl⟩|⟨_,b⟩
  ·exact i.kinds y _ hx
  ·exact i.kinds y p b
 ·intro q hq
  refine oV (i.lists q (.tail _ hq)) λa vs b r=> ?_
  rcases ao.mp a with e|e
  ·exact absurd e (Uk q hq)
  ·exact ⟨e,vs,b,r.sub sb⟩
theorem w0 (x:Str) (hx:σ.lookup x=aa (.raw (.ref D))) (Uk: ∀q∈Λ,q.1≠D) (hD:D∉c.X) (hb:mT prog w c.env c.A (In c ((x,.list l)::σ) Λ) b J) (hc:c.env.locals∈c.own:=by exact .head _):mT prog w c.env c.A (In (c.addOwn D) σ ((D,l)::Λ)) b J:=.mk λs i=>hb.run s (i.release hx Uk hD hc)
end
end
section
open PySem.Calls PyProof.Rows
section
variable {prog:aH} {w:av} {A:aX} {X:List aF}
theorem pU (e:FR f x):bB s {s with toks:=s.toks+1}/\mP X ({s with toks:=s.toks+1}:aq).heap (.fx f) (.float x t):=⟨pg _ _,by exact ⟨_,_,rfl,e⟩⟩
noncomputable def zQ (n:Int):Bool:=decide (n.natAbs<2^40)
theorem tw (h:zQ n=ai):n.natAbs<2^1023:=by
 have h1:n.natAbs<2^40:=of_decide_eq_true h
 exact Nat.lt_trans h1 (lB (by decide) (by decide))
def nv:PV->Option Fx
 |.fx f=>aa f
 |.int n=>cond (zQ n) (PK n) az
 |_=>az
noncomputable def wz:PV->Bool|.fx _=>ai|_=>false
theorem QQ {n:Int} {f:Fx} (e:nv (.int n)=aa f):zQ n=ai/\FR f (Float64.ofInt n):=by
 change cond (zQ n) (PK n) az=aa f at e
 cases h:zQ n with
 |false=>rw [h] at e;exact nE e
 |true=>rw [h] at e;exact ⟨rfl,Qn e⟩
theorem sD (hf:nv p=aa f) (r:mP X h p v):(∃x t,p= .fx f/\v= .float x t/\FR f x)\/ ∃n t,p= .int n/\v= .int n t/\zQ n=ai/\FR f (Float64.ofInt n):=by
 cases p with
 |fx g=>obtain rfl:=am hf;refine oU r λx t e F=> ?_;exact .inl ⟨x,t,rfl,e,F⟩
 |int n=>refine eA (QQ hf) λhs F=> ?_;refine eE r λt e=> ?_;exact .inr ⟨n,t,rfl,e,hs,F⟩
 |_=>exact nE hf
theorem JW (hf:nv p=aa f) (hg:nv q=aa g) (e:Cp f g=aa r) (hm:(wz p||wz q)=ai):n0 prog w A X (cf .Add) p q (.fx r):=λs x y z rp rq=>by
 rcases sD hf rp with ⟨x,t,rfl,rfl,Fx⟩|⟨n,t,rfl,rfl,hs,Fx⟩
 ·rcases sD hg rq with ⟨y,u,rfl,rfl,Fy⟩|⟨n,u,rfl,rfl,hs,Fy⟩
  ·exact add_float (pU (xj Fx Fy e))
  ·exact add_fi_fits (tw hs) (pU (xj Fx Fy e))
 ·rcases sD hg rq with ⟨y,u,rfl,rfl,Fy⟩|⟨_,u,rfl,rfl,_,Fy⟩
  ·exact add_if_fits (tw hs) (pU (xj Fx Fy e))
  ·exact oJ hm
theorem Jx (hf:nv p=aa f) (hg:nv q=aa g) (e:Me f g=aa r) (hm:(wz p||wz q)=ai):n0 prog w A X (cf .Sub) p q (.fx r):=λs x y z rp rq=>by
 rcases sD hf rp with ⟨x,t,rfl,rfl,Fx⟩|⟨n,t,rfl,rfl,hs,Fx⟩
 ·rcases sD hg rq with ⟨y,u,rfl,rfl,Fy⟩|⟨n,u,rfl,rfl,hs,Fy⟩
  ·exact sub_float (pU (Cv Fx Fy e))
  ·exact sub_fi_fits (tw hs) (pU (Cv Fx Fy e))
 ·rcases sD hg rq with ⟨y,u,rfl,rfl,Fy⟩|⟨_,u,rfl,rfl,_,Fy⟩
  ·exact sub_if_fits (tw hs) (pU (Cv Fx Fy e))
  ·exact oJ hm
theorem JA (hf:nv p=aa f) (hg:nv q=aa g) (e:Lv f g=aa r) (hm:(wz p||wz q)=ai):n0 prog w A X (cf .Mult) p q (.fx r):=λs x y z rp rq=>by
 rcases sD hf rp with ⟨x,t,rfl,rfl,Fx⟩|⟨n,t,rfl,rfl,hs,Fx⟩
 ·rcases sD hg rq with ⟨y,u,rfl,rfl,Fy⟩|⟨n,u,rfl,rfl,hs,Fy⟩
  ·exact mul_float (pU (B1 Fx Fy e))
  ·exact mul_fi_fits (tw hs) (pU (B1 Fx Fy e))
 ·rcases sD hg rq with ⟨y,u,rfl,rfl,Fy⟩|⟨_,u,rfl,rfl,_,Fy⟩
  ·exact mul_if_fits (tw hs) (pU (B1 Fx Fy e))
  ·exact oJ hm
theorem zw (h:FR f x): ¬Float64.isInf x=ai:=by
 obtain ⟨a,m,e,hd⟩:=h.1
 unfold Float64.isInf
 exact hd▸dz
def AV (a b:Int):Option Fx:=cond (bN b.natAbs 0) az (vO (decide (a<0)!=decide (b<0)) (de a.natAbs U) b.natAbs)
theorem G7 (e:AV a b=aa r):b≠0/\FR r (Float64.ofFrac (decide (a<0)!=decide (b<0)) a.natAbs b.natAbs):=by
 unfold AV at e
 cases hb:bN b.natAbs 0 with
 |true=>rw [hb] at e;exact nE e
 |false=>
  rw [hb,An] at e
  have hz:=D9 hb
  refine ⟨by omega,?_⟩
  refine th (Float64.ofFrac_right (W:=de a.natAbs U) (D:=b.natAbs) (by exact (my (.i (.n (.e xA xJ)) (.b xJ xA)) [_]) hz) ?_ (by exact (my (.i (.n (.e xA xJ)) (.b xJ xA)) [_]) hz)) (by exact (my (.i (.n (.e xA xJ)) (.b xJ xA)) [_]) hz) e (.inl rfl)
  rw [jS];rfl
theorem KC (e:AV a b=aa r):n0 prog w A X (cf .Div) (.int a) (.int b) (.fx r):=λs x y z rp rq=>by
 obtain ⟨hb,F⟩:=G7 e
 obtain ⟨t,rfl⟩:=rp;obtain ⟨u,rfl⟩:=rq
 exact jO (by simpa using hb) (zw F) (pU F)
theorem Kq (hf:nv p=aa f) (hg:nv q=aa g) (e:zd f g=aa r) (hm:(wz p||wz q)=ai):n0 prog w A X (cf .Div) p q (.fx r):=λs x y j rp rq=>by
 rcases sD hf rp with ⟨x,t,rfl,rfl,Fx⟩|⟨n,t,rfl,rfl,hs,Fx⟩
 ·rcases sD hg rq with ⟨y,u,rfl,rfl,Fy⟩|⟨n,u,rfl,rfl,hs,Fy⟩
  ·obtain ⟨Fr,z⟩:=zL Fx Fy e
   exact jy (by simp [z]) (pU Fr)
  ·obtain ⟨Fr,z⟩:=zL Fx Fy e
   exact AutoFloatOps.truediv_fi_2 (zw Fy) (by simp [z]) (pU Fr)
 ·rcases sD hg rq with ⟨y,u,rfl,rfl,Fy⟩|⟨_,u,rfl,rfl,_,Fy⟩
  ·obtain ⟨Fr,z⟩:=zL Fx Fy e
   exact AutoFloatOps.truediv_if_2 (zw Fx) (by simp [z]) (pU Fr)
  ·exact oJ hm
end
section
variable {prog:aH} {w:av} {A:aX} {X:List aF}
theorem pn (h:FR f x):Ev prog w φ (.Constant (.float x) k pos) (.fx f):=.mk λs i=>
 ab (wv.run (prog:=prog) (w:=w) (φ:=φ) s i) (λv s' uu=>eA uu λa r=>⟨a,by unfold mP at r ⊢;obtain ⟨t,e⟩:=r;exact ⟨_,t,e,h⟩⟩) λz z e=>e
theorem ue (f:Fx) (hx:Float64.decode x= .fin a m e) (h:f=⟨a,m*2^(e+1074).toNat⟩):FR f x:=
 ⟨⟨_,_,_,hx⟩,by rw [Float64.val_eq hx,h]⟩
theorem IQ (e:DJ f=aa r):n0 prog w A X (cf .Mod) (.fx f) (.float r8) (.fx r):=λs x y j rp rq=>by
 refine oU rp ?_;clear rp;intro x t T1 Fx;obtain rfl:=T1;obtain ⟨u,rfl⟩:=rq
 have z:Float64.isZero r8=false:=by decide+kernel
 exact AutoFloatOps.mod_1 (by simp [z]) (pU (Ms Fx e))
theorem A1:n0 prog w A X (bP .Lt) (.fx f) (.fx g) (.bool (ve f g)):=λs x y z rp rq=>by
 refine oU rp ?_;clear rp;intro x t T1 Fx;obtain rfl:=T1;refine oU rq ?_;clear rq;intro y u T1 Fy;obtain rfl:=T1
 exact AutoFloatOps.lt_0 ⟨mO _,by unfold mP;rw [DL Fx Fy]⟩
theorem Ew:n0 prog w A X (bP .LtE) (.fx f) (.fx g) (.bool (ve f g||sU f g)):=λs x y z rp rq=>by
 refine oU rp ?_;clear rp;intro x t T1 Fx;obtain rfl:=T1;refine oU rq ?_;clear rq;intro y u T1 Fy;obtain rfl:=T1
 exact AutoFloatOps.le_0 ⟨mO _,by unfold mP;rw [DL Fx Fy,Iy Fx Fy]⟩
theorem AQ:n0 prog w A X (bP .Eq) (.fx f) (.fx g) (.bool (sU f g)):=λs x y z rp rq=>by
 refine oU rp ?_;clear rp;intro x t T1 Fx;obtain rfl:=T1;refine oU rq ?_;clear rq;intro y u T1 Fy;obtain rfl:=T1
 exact jX ⟨mO _,by unfold mP;rw [Iy Fx Fy]⟩
def xd (n:Int):Fx:=⟨decide (n<0),de n.natAbs U⟩
theorem Pj (n:Int):fA (xd n).s (xd n).m=n*2^1074:=by
 show fA (decide (n<0)) (de n.natAbs U)=_
 rw [jS,Float64.sgn_mul]
 have e1:(U:Int)=(2:Int)^1074:=by unfold U;rw [Int.natCast_pow];rfl
 rw [e1]
 congr 1
 unfold fA
 by_cases h:n<0
 ·rw [decide_eq_true h];simp only [if_true];omega
 ·rw [decide_eq_false h];simp only [a9,if_false];omega
theorem JC (hx:FR f x) (n:Int):ml x n=aa (compare (fA f.s f.m) (fA (xd n).s (xd n).m)):=by
 refine vo hx.1 λa m e h=> ?_
 rw [Float64.cmpInt_right h,hx.2,Pj]
theorem yK (hx:FR f x) (n:Int):(ml x n==aa Ordering.eq)=sU f (xd n):=by
 rw [JC hx,Hs]
 rcases jq (fA f.s f.m) (fA (xd n).s (xd n).m) with h|h|h
 ·rw [jr.mpr h,decide_eq_false (by exact (my (.i (.B xA xB) (.n (.E xA xB))) [] [_,_]) h)];rfl
 ·rw [h,decide_eq_true rfl,Int.compare_eq_eq.mpr rfl];rfl
 ·rw [js.mpr h,decide_eq_false (by exact (my (.i (.B xB xA) (.n (.E xA xB))) [] [_,_]) h)];rfl
theorem LU:n0 prog w A X (bP .Eq) (.fx f) (.int n) (.bool (sU f (xd n))):=λs x y z rp rq=>by
 refine oU rp ?_;clear rp;intro x t T1 Fx;obtain rfl:=T1;obtain ⟨u,rfl⟩:=rq
 exact eq_fi ⟨mO _,by unfold mP;rw [yK Fx]⟩
theorem Lw:n0 prog w A X (bP .Eq) (.int n) (.fx f) (.bool (sU f (xd n))):=λs x y z rp rq=>by
 obtain ⟨u,rfl⟩:=rp;refine oU rq ?_;clear rq;intro x t T1 Fx;obtain rfl:=T1
 exact eq_if ⟨mO _,by unfold mP;rw [yK Fx]⟩
end
end
section
open PySem.Calls PyProof.Rows PySem.Flt
section
variable {prog:aH} {w:av} {A:aX} {X:List aF} {I:aW->Prop}
theorem Bv (e:Ic f=aa n):pV prog w A X I (.type "int") [.fx f] (.int n):=λs vs z z r=>by
 refine mR (qJ r) λv T1 r1=> ?_;obtain rfl:=T1
 refine oU r1 ?_;clear r1;intro x t T1 Fx;obtain rfl:=T1
 refine wD (OP Fx e) λa m k hd ht=> ?_
 exact call_int_float hd (qz ht)
def ug:PV->PV->Bool
 |.int a,.int b=>decide (a<b)
 |.fx f,.fx g=>ve f g
 |_,_=>false
def qn:PV->PV->Prop
 |.int _,.int _=>True
 |.fx _,.fx _=>True
 |_,_=>False
theorem xt (n:qn p q):(∃a b,p= .int a/\q= .int b)\/ ∃f g,p= .fx f/\q= .fx g:=by
 cases p with
 |int a=>cases q with
  |int b=>exact .inl ⟨a,b,rfl,rfl⟩
  |_=>exact n.elim
 |fx a=>cases q with
  |fx b=>exact .inr ⟨a,b,rfl,rfl⟩
  |_=>exact n.elim
 |_=>exact n.elim
theorem vJ (n:qn p q) (a:mP X h p v) (b:mP X h q u):ltV v u=ug p q:=by
 rcases xt n with ⟨_,_,rfl,rfl⟩|⟨_,_,rfl,rfl⟩
 ·obtain ⟨t,rfl⟩:=a;obtain ⟨t',rfl⟩:=b;rfl
 ·refine oU a ?_;clear a;intro x t T1 Fx;obtain rfl:=T1;refine oU b ?_;clear b;intro y t' T1 Fy;obtain rfl:=T1
  exact DL Fx Fy
theorem sB (n:qn p q) (a:mP X h p v):NumV v:=by
 rcases xt n with ⟨_,_,rfl,rfl⟩|⟨_,_,rfl,rfl⟩
 ·obtain ⟨t,rfl⟩:=a;constructor
 ·obtain ⟨x,t,rfl,Fx⟩:=a;constructor
def ny (p q r:PV):PV:=cond (ug p q) (cond (ug q r) r q) (cond (ug p r) r p)
def qo (p q r:PV):PV:=cond (ug q p) (cond (ug r q) r q) (cond (ug r p) r p)
theorem yz {s:aq} {Q:ay->aq->Prop} (hh:A.handled=az) (ha:NumV a) (hb:NumV b) (hc:NumV c)
  (h: ∀h' tk,mU s.heap h'->Q (cond (ltV a b) (cond (ltV b c) c b) (cond (ltV a c) c a)) {s with heap:=h',toks:=tk}):
  aC (aI prog w) A (ft (.builtin "max") [a,b,c]) Q E s:=by
 have hT:(s.heap.push {cls:=.type "tuple",data:=.seq #[a,b,c]}).IsTuple s.heap.objs.size #[a,b,c]:=⟨_,au _ rfl,rfl,0,rfl⟩
 refine call_max_three (et hT ?_)
 have hsz:(s.heap.push {cls:=.type "tuple",data:=.seq #[a,b,c]}).objs.size=s.heap.objs.size+1:=cw ..
 refine ⟨_,[_,s.heap.objs.size],[_],_,_,_,_,rfl,kI (A:=A.in1) hh _ s.heap.objs.size (by rw [hsz];exact dj (dw _)) #[a,b,c],
  ⟨⟨_,au _ rfl,rfl,rfl⟩,hT.push _⟩,λd hd=> ?_,by simp,cmpOf_gt #[a,b,c] (by simp [ha,hb,hc]),λv h' tk hP hk=> ?_⟩
 ·show d<((s.heap.push _).push _).objs.size
  rw [cw,hsz]
  rcases ao.mp hd with rfl|hd
  ·rw [hsz];exact dw _
  ·rcases ao.mp hd with rfl|hd
   ·exact gG (dw _)
   ·cases hd
 ·have Xq:mU s.heap h':=λd o e=>by
   refine hk d o (λhm=> ?_) (aO _ (aO _ e))
   rcases ao.mp hm with e1|hm
   ·have:=aR e;rw [e1,hsz] at this;exact bY _ (gH this)
   ·cases hm
  have:=h h' tk Xq
  have hv:v=cond (ltV a b) (cond (ltV b c) c b) (cond (ltV a c) c a):=by
   have hP':(#[a,b,c]:Array ay)[l0 (λi j=>ltV ((#[a,b,c]:Array ay).getD j .none) ((#[a,b,c]:Array ay).getD i .none)) 2]? =aa v:=hP
   cases e1:ltV a b<;>cases e2:ltV b c<;>cases e3:ltV a c<;>simpa [l0,e1,e2,e3] using hP'.symm
  rw [hv];exact this
theorem yD {s:aq} {Q:ay->aq->Prop} (hh:A.handled=az) (ha:NumV a) (hb:NumV b) (hc:NumV c)
  (h: ∀h' tk,mU s.heap h'->Q (cond (ltV b a) (cond (ltV c b) c b) (cond (ltV c a) c a)) {s with heap:=h',toks:=tk}):
  aC (aI prog w) A (ft (.builtin "min") [a,b,c]) Q E s:=by
 have hT:(s.heap.push {cls:=.type "tuple",data:=.seq #[a,b,c]}).IsTuple s.heap.objs.size #[a,b,c]:=⟨_,au _ rfl,rfl,0,rfl⟩
 refine call_min_three (et hT ?_)
 have hsz:(s.heap.push {cls:=.type "tuple",data:=.seq #[a,b,c]}).objs.size=s.heap.objs.size+1:=cw ..
 refine ⟨_,[_,s.heap.objs.size],[_],_,_,_,_,rfl,kI (A:=A.in1) hh _ s.heap.objs.size (by rw [hsz];exact dj (dw _)) #[a,b,c],
  ⟨⟨_,au _ rfl,rfl,rfl⟩,hT.push _⟩,λd hd=> ?_,by simp,cmpOf_lt #[a,b,c] (by simp [ha,hb,hc]),λv h' tk hP hk=> ?_⟩
 ·show d<((s.heap.push _).push _).objs.size
  rw [cw,hsz]
  rcases ao.mp hd with rfl|hd
  ·rw [hsz];exact dw _
  ·rcases ao.mp hd with rfl|hd
   ·exact gG (dw _)
   ·cases hd
 ·have Xq:mU s.heap h':=λd o e=>by
   refine hk d o (λhm=> ?_) (aO _ (aO _ e))
   rcases ao.mp hm with e1|hm
   ·have:=aR e;rw [e1,hsz] at this;exact bY _ (gH this)
   ·cases hm
  have:=h h' tk Xq
  have hv:v=cond (ltV b a) (cond (ltV c b) c b) (cond (ltV c a) c a):=by
   have hP':(#[a,b,c]:Array ay)[l0 (λi j=>ltV ((#[a,b,c]:Array ay).getD i .none) ((#[a,b,c]:Array ay).getD j .none)) 2]? =aa v:=hP
   cases e1:ltV b a<;>cases e2:ltV c b<;>cases e3:ltV c a<;>simpa [l0,e1,e2,e3] using hP'.symm
  rw [hv];exact this
theorem AC (hh:A.handled=az) (n1:qn p q) (n2:qn q r) (n3:qn p r) (n4:qn r p):pV prog w A X I (.builtin "max") [p,q,r] (ny p q r):=λs vs z z rr=>by
 refine rZ (zS rr) λv1 v2 v3 T1 r1 r2 r3=> ?_;obtain rfl:=T1
 refine yz hh (sB n1 r1) (sB n2 r2) (sB n4 r3) λh' tk k=>⟨⟨_,_,rfl,k⟩,?_⟩
 rw [vJ n1 r1 r2,vJ n2 r2 r3,vJ n3 r1 r3]
 unfold ny
 cases ug p q<;>cases ug q r<;>cases ug p r<;>dsimp only [cond]<;>first|exact r1.keep k|exact r2.keep k|exact r3.keep k
theorem sa (n:qn p q):qn q p:=by
 rcases xt n with ⟨_,_,rfl,rfl⟩|⟨_,_,rfl,rfl⟩<;>trivial
theorem A0 (hh:A.handled=az) (n1:qn p q) (n2:qn q r) (n3:qn p r) (n4:qn r p):pV prog w A X I (.builtin "min") [p,q,r] (qo p q r):=λs vs z z rr=>by
 refine rZ (zS rr) λv1 v2 v3 T1 r1 r2 r3=> ?_;obtain rfl:=T1
 refine yD hh (sB n1 r1) (sB n2 r2) (sB n4 r3) λh' tk k=>⟨⟨_,_,rfl,k⟩,?_⟩
 rw [vJ (sa n1) r2 r1,vJ (sa n2) r3 r2,vJ n4 r3 r1]
 unfold qo
 cases ug q p<;>cases ug r q<;>cases ug r p<;>dsimp only [cond]<;>first|exact r1.keep k|exact r2.keep k|exact r3.keep k
end
def Hb (op:Fx->Fx->Option Fx) (p q:PV):Option PV:=match nv p with
 |none=>az
 |some f=>match nv q with
  |none=>az
  |some g=>match op f g with
   |none=>az
   |some r=>cond (wz p||wz q) (aa (.fx r)) az
theorem wl (e:Hb op p q=aa r): ∃f g k,nv p=aa f/\nv q=aa g/\op f g=aa k/\(wz p||wz q)=ai/\r= .fx k:=by
 unfold Hb at e
 cases h1:nv p with
 |none=>rw [h1] at e;exact nE e
 |some f=>
  cases h2:nv q with
  |none=>rw [h1,h2] at e;exact nE e
  |some g=>
   rw [h1,h2] at e
   dsimp only at e
   cases h3:op f g with
   |none=>rw [h3] at e;exact nE e
   |some k=>
    rw [h3] at e
    dsimp only at e
    cases h4:(wz p||wz q) with
    |false=>rw [h4] at e;exact nE e
    |true=>rw [h4] at e;obtain rfl:=am e;exact ⟨f,g,k,rfl,rfl,h3,rfl,rfl⟩
def qE (p q:PV):Option PV:=match p,q with
 |.int a,.int b=>aa (.int (a+b))
 |p,q=>Hb Cp p q
def nR (p q:PV):Option PV:=match p,q with
 |.int a,.int b=>aa (.int (a - b))
 |p,q=>Hb Me p q
def pF (p q:PV):Option PV:=Hb Lv p q
def qK (p q:PV):Option PV:=match p,q with
 |.int a,.int b=>match AV a b with|none=>az|some r=>aa (.fx r)
 |p,q=>Hb zd p q
def Bt (p:PV):Option PV:=match p with
 |.fx f=>match DJ f with|none=>az|some r=>aa (.fx r)
 |_=>az
def rS (p q:PV):Bool:=match p,q with
 |.int a,.int b=>a==b
 |.fx f,.fx g=>sU f g
 |.fx f,.int n=>sU f (xd n)
 |.int n,.fx f=>sU f (xd n)
 |_,_=>false
noncomputable def uw:PV->Bool|.int _=>ai|.fx _=>ai|_=>false
section
variable {prog:aH} {w:av} {A:aX} {X:List aF} {I:aW->Prop} {p q r:PV}
theorem qB (e:qE p q=aa r):n0 prog w A X (cf .Add) p q r:=by
 unfold qE at e
 split at e
 ·obtain rfl:=am e;exact nV
 ·refine uB (wl e) λf g k a b c d T1=> ?_;obtain rfl:=T1;exact JW a b c d
theorem nQ (e:nR p q=aa r):n0 prog w A X (cf .Sub) p q r:=by
 unfold nR at e
 split at e
 ·obtain rfl:=am e;exact nK
 ·refine uB (wl e) λf g k a b c d T1=> ?_;obtain rfl:=T1;exact Jx a b c d
theorem pH (e:pF p q=aa r):n0 prog w A X (cf .Mult) p q r:=by
 refine uB (wl e) λf g k a b c d T1=> ?_;obtain rfl:=T1;exact JA a b c d
theorem rf (e:qK p q=aa r):n0 prog w A X (cf .Div) p q r:=by
 unfold qK at e
 split at e
 ·split at e
  ·exact nE e
  ·rename_i h;obtain rfl:=am e;exact KC h
 ·refine uB (wl e) λf g k a b c d T1=> ?_;obtain rfl:=T1;exact Kq a b c d
theorem AD (e:Bt p=aa r):n0 prog w A X (cf .Mod) p (.float r8) r:=by
 unfold Bt at e
 split at e
 ·split at e
  ·exact nE e
  ·rename_i h;obtain rfl:=am e;exact IQ h
 ·exact nE e
theorem Hk (h:uw p=ai):(∃n,p= .int n)\/ ∃f,p= .fx f:=by
 cases p with
 |int n=>exact .inl ⟨n,rfl⟩
 |fx f=>exact .inr ⟨f,rfl⟩
 |_=>exact oJ h
theorem tK (hp:uw p=ai) (hq:uw q=ai):n0 prog w A X (bP .Eq) p q (.bool (rS p q)):=by
 rcases Hk hp with ⟨_,rfl⟩|⟨_,rfl⟩<;>rcases Hk hq with ⟨_,rfl⟩|⟨_,rfl⟩
 ·exact pY
 ·exact Lw
 ·exact LU
 ·exact AQ
end
end
section
open PySem.Calls PyProof.Rows
noncomputable def nM (i:Nat):eh:=(mu.main.body[i]?).getD (.Pass kq)
def o0 (j:Nat):eh:=match nM 43 with
 |.ClassDef _ _ _ b _ _ _ _ _ _ _=>(b[j]?).getD (.Pass kq)
 |_=>.Pass kq
noncomputable def nW (st:eh):List eh:=match st with
 |.FunctionDef _ _ b _ _ _ _ _ _ _=>b
 |_=>[]
noncomputable def Sh (st:eh) (q:Str) (dV kV doc pm:ay) (an:Option aF) (cdv ct:ay):bz:=match st with
 |.FunctionDef n a b _ _ _ sc _ _ _=>{name:=n,qualname:=q,params:=a,body:=.stmts b,scope:=sc,globals:=bm,closure:=[],defaults:=dV,kwdefaults:=kV,doc:=doc,pyModule:=pm,annotations:=an,code:=cdv,closureTuple:=ct,builtins:=dh}
 |_=>kq
noncomputable def pA (k:Nat):Nat:=if k<10 then 48+k else 55+k
def pq (k:Nat):List Nat:=[61,pA (k/16),pA (k % 16)]
def z7 (n:Nat):List ay:=(ag n).map λc=>.str (S (pq c)) (299+4*c)
def vb (l:List ay) (cs:List Nat) (t:Nat):List ay:=cs.zipIdx.foldl (λl c=>l.set c.1 (.str (S [c.1]) (t+3*c.2))) l
noncomputable def yc:List Nat:=[45,33,42,43,47]++(ag 26).map (97+ ·)++(ag 26).map (65+ ·)++(ag 10).map (48+ ·)
noncomputable def yb:List Nat:=((ag 29).map (32+ ·))++(ag 65).map (62+ ·)++[9]
noncomputable def J2 (st:eh):Str:=match st with
 |.FunctionDef n _ _ _ _ _ _ _ _ _=>n
 |_=>""
noncomputable def kh (P:aQ) (x:Str):Int:=g7 P x
def en (P:aQ) (x:String) (t:Nat) (v:ay):je:=⟨kh P (.ofString x),.str (.ofString x) t,v⟩
noncomputable def sS (x:String) (t:Nat):ay:=.str (.ofString x) t
noncomputable def oD (l:Array je) (n:Nat):Obj:=⟨.type "dict",az,.dict l n,#[]⟩
noncomputable def oT (l:Array ay):Obj:=⟨.type "tuple",az,.seq l 0,#[]⟩
noncomputable def oL (l:Array ay):Obj:=⟨.type "list",az,.seq l 0,#[]⟩
noncomputable def oC (l:Array ay):Obj:=⟨.type "code",az,.fields l,#[]⟩
def TK (st:eh) (q:Str):bz:={Sh st q .none .none .none .none az .none .none with globals:=0,builtins:=0}
noncomputable def oF (c:String) (l:List ay):Obj:=⟨.type c,az,.fields l.toArray,#[]⟩
noncomputable def oN (l:List ay):Obj:=⟨.none,az,.fields l.toArray,#[]⟩
def nS (t:Nat) (l:List String):List ay:=l.zipIdx.map λq=>sS q.1 (t+q.2)
noncomputable def iS (l:List Nat):List ay:=l.map λn=>.int (.ofNat n) 0
def Q8 (t:Nat):ay:=sS "/claim/cut.py" t
noncomputable def fo (fd:bz):Obj:=⟨.type "function",az,.func fd,#[]⟩
def mA:ay:=sS "__main__" 164
def mB:ay:=sS "cpy313.email.quoprimime" 1336
def mC:ay:=sS "cpy313.colorsys" 1900
def mD:ay:=sS "cpy313.smtplib" 1985
def mE:ay:=sS "cpy313.wsgiref.headers" 2054
def mF:ay:=sS "law_wv0059_01" 2317
abbrev FF (α:Type):=eh->String->ay->ay->Nat->Nat->Nat->Nat->Nat->Nat->Option (List String)->α
def rO:FF bz:=λst q md dv c z z z z z z=>Sh st (.ofString q) dv .none .none md az (.ref c) .none
def I6 (n q:ay) (t ln ac ko fl a e k:Nat) (b:Bool) (vs:List ay):Obj:=oC ([n,q,Q8 (t+2),.int (.ofNat ln) 0,.int (.ofNat ac) 0,.int 0 0,.int (.ofNat ko) 0,.int (.ofNat fl) 0,.ref a,.bool b,.int (.ofNat k) 0,.ref (a+1),.none]++vs++[.int (.ofNat e) 0,.int (.ofNat ln) 0,Q8 (e+1)]).toArray
def M6:FF Obj:=λst q z z c t ln ac ko fl vs=>match vs with
 |some l=>I6 (.str (J2 st) t) (sS q (t+1)) t ln ac ko fl (c - 5) (t+3+l.length) 276 ai [.ref (c - 3),.ref (c - 2),.ref (c - 1)]
 |none=>I6 (.str (J2 st) t) (sS q (t+1)) t ln ac ko fl (c - 3) (t+3) 276 ai [.none,.none,.ref (c - 1)]
def qq:FF (List Obj):=λst q md dv c t ln ac ko fl vs=>oT #[]::oN []::((match vs with
 |some l=>[oT (nS (t+3) l).toArray,oT #[]]
 |none=>[])++[⟨.none,az,.func (TK st (.ofString q)),#[]⟩,M6 st q md dv c t ln ac ko fl vs,fo (rO st q md dv c t ln ac ko fl vs)])
def sj:FF Frag:=λst q md dv c t ln ac ko fl vs=>[(c,M6 st q md dv c t ln ac ko fl vs),(c+1,fo (rO st q md dv c t ln ac ko fl vs))]
def PP {α:Type} (f:FF α):α:=f (nM 16) "unquote" mB .none 60 1835 21 1 0 3 (aa ["s"])
def Rf {α:Type} (f:FF α):α:=f (nM 17) "quote" mB .none 67 1842 23 1 0 3 (aa ["c"])
def Rd {α:Type} (f:FF α):α:=f (nM 18) "header_encode" mB (.ref 69) 75 1850 25 2 0 3 (aa ["header_bytes","charset","encoded"])
def QM {α:Type} (f:FF α):α:=f (nM 22) "body_encode" mB (.ref 82) 88 1868 34 3 0 3 (aa ["body","maxlinelen","eol","soft_break","maxlinelen1","encoded_body","append","line","start","laststart","stop","room","q"])
def QO {α:Type} (f:FF α):α:=f (nM 23) "decode" mB (.ref 90) 96 1887 72 2 0 3 (aa ["encoded","eol","decoded","line","i","n","c"])
def L7 {α:Type} (f:FF α):α:=f (nM 28) "rgb_to_hls" mC .none 103 1914 106 3 0 3 (aa ["r","g","b","maxc","minc","sumc","rangec","l","s","rc","gc","bc","h"])
def Mu {α:Type} (f:FF α):α:=f (nM 29) "hls_to_rgb" mC .none 110 1933 129 3 0 3 (aa ["h","l","s","m2","m1"])
def Li {α:Type} (f:FF α):α:=f (nM 30) "_v" mC .none 117 1944 138 3 0 3 (aa ["m1","m2","hue"])
def L8 {α:Type} (f:FF α):α:=f (nM 31) "rgb_to_hsv" mC .none 124 1953 147 3 0 3 (aa ["r","g","b","maxc","minc","rangec","v","s","rc","gc","bc","h"])
def MU {α:Type} (f:FF α):α:=f (nM 32) "hsv_to_rgb" mC .none 131 1971 166 3 0 3 (aa ["h","s","v","i","f","p","q","t"])
def MG {α:Type} (f:FF α):α:=f (nM 37) "quotedata" mD .none 148 2047 191 1 0 3 (aa ["data"])
def S9 {α:Type} (f:FF α):α:=f (nM 42) "_formatparam" mE (.ref 165) 171 2151 197 3 0 3 (aa ["param","value","quote"])
def Lx {α:Type} (f:FF α):α:=f (o0 0) "Headers.__init__" mE (.ref 180) 186 2172 208 2 0 3 (aa ["self","headers","k","v"])
def Ml {α:Type} (f:FF α):α:=f (o0 1) "Headers._convert_string_type" mE .none 193 2182 218 2 1 3 (aa ["self","value","name","regex"])
def SN {α:Type} (f:FF α):α:=f (o0 2) "Headers.__len__" mE .none 200 2192 226 1 0 3 (aa ["self"])
def Td {α:Type} (f:FF α):α:=f (o0 3) "Headers.__setitem__" mE .none 207 2199 229 3 0 3 (aa ["self","name","val"])
def S7 {α:Type} (f:FF α):α:=f (o0 4) "Headers.__delitem__" mE .none 212 2208 233 2 0 3 az
def Tn {α:Type} (f:FF α):α:=f (o0 5) "Headers.__getitem__" mE .none 219 2214 237 2 0 3 (aa ["self","name"])
def Th {α:Type} (f:FF α):α:=f (o0 6) "Headers.__contains__" mE .none 226 2222 240 2 0 3 (aa ["self","name"])
def MK {α:Type} (f:FF α):α:=f (o0 7) "Headers.get_all" mE .none 231 2230 243 2 0 3 az
def LZ {α:Type} (f:FF α):α:=f (o0 8) "Headers.get" mE (.ref 233) 239 2236 247 3 0 3 (aa ["self","name","default","k","v"])
def Lq {α:Type} (f:FF α):α:=f (o0 9) "Headers.keys" mE .none 244 2247 254 1 0 3 az
def L1 {α:Type} (f:FF α):α:=f (o0 10) "Headers.values" mE .none 249 2253 257 1 0 3 az
def Mw {α:Type} (f:FF α):α:=f (o0 11) "Headers.items" mE .none 256 2259 260 1 0 3 (aa ["self"])
def SP {α:Type} (f:FF α):α:=f (o0 12) "Headers.__repr__" mE .none 263 2266 263 1 0 3 (aa ["self"])
def Le {α:Type} (f:FF α):α:=f (o0 13) "Headers.__str__" mE .none 268 2273 266 1 0 3 az
def Tk {α:Type} (f:FF α):α:=f (o0 14) "Headers.__bytes__" mE .none 275 2279 269 1 0 3 (aa ["self"])
def Tb {α:Type} (f:FF α):α:=f (o0 15) "Headers.setdefault" mE .none 282 2286 272 3 0 3 (aa ["self","name","value"])
def La {α:Type} (f:FF α):α:=f (o0 16) "Headers.add_header" mE .none 289 2295 275 3 0 11 (aa ["self","_name","_value","_params","parts","k","v"])
def Mh {α:Type} (f:FF α):α:=f (nM 45) "_law_hue" mF .none 303 2319 289 1 0 3 (aa ["place","sixth","rise","fall","paints","red","green","blue"])
def Mm {α:Type} (f:FF α):α:=f (nM 46) "_law_turned" mF .none 308 2333 295 5 0 3 az
def Mr {α:Type} (f:FF α):α:=f (nM 47) "_law_grey" mF .none 315 2339 309 2 0 3 (aa ["value","way","grey","told"])
def Mk {α:Type} (f:FF α):α:=f (nM 48) "_law_told" mF .none 320 2349 313 1 0 3 az
def LO {α:Type} (f:FF α):α:=f (nM 49) "_law_refused" mF .none 327 2355 326 1 0 3 (aa ["attempt","error"])
def Fe {α:Type} (f:FF α):α:=f (nM 50) "law" mF .none 332 2363 332 1 0 3 az
def SJ:bz:=PP rO
def SZ:bz:=Rf rO
def SR:bz:=Rd rO
def wx:bz:=QM rO
def wW:bz:=QO rO
def Ja:bz:=L7 rO
def R3:bz:=Mu rO
def Rr:bz:=Li rO
def yn:bz:=L8 rO
def RL:bz:=MU rO
def RP:bz:=MG rO
def tp:bz:=Lx rO
def BR:bz:=Ml rO
def Rx:bz:=MK rO
def Ro:bz:=LZ rO
def RJ:bz:=Lq rO
def RV:bz:=L1 rO
def Rw:bz:=Mw rO
def RE:bz:=Le rO
def rE:bz:=La rO
def NH:bz:=Mh rO
def zx:bz:=Mm rO
def wG:bz:=Mr rO
def IK:bz:=Mk rO
def qA:bz:=LO rO
def pC:bz:=Fe rO
def gE (P:aQ):List je:=[en P "__doc__" 166 .none,en P "__package__" 167 .none,en P "__loader__" 168 (.builtin "__main__.__loader__#opaque"),en P "__spec__" 169 .none,en P "__annotations__" 170 (.ref 6),en P "__builtins__" 171 (.ref 4),en P "__file__" 173 (sS "/claim/cut.py" 172),en P "__cached__" 174 .none,en P "_sre" 275 (.ref 12),en P "_wall" 288 (.ref 38),en P "CRLF_quoprimime" 290 (sS "\r\n" 289),en P "NL" 292 (sS "\n" 291),en P "_QUOPRI_MAP" 1320 (.ref 41),en P "_QUOPRI_HEADER_MAP" 1321 (.ref 46),en P "_QUOPRI_BODY_MAP" 1322 (.ref 48),en P "ascii_lowercase" 1324 (sS "abcdefghijklmnopqrstuvwxyz" 1323),en P "ascii_uppercase" 1326 (sS "ABCDEFGHIJKLMNOPQRSTUVWXYZ" 1325),en P "ascii_letters" 1328 (sS "abcdefghijklmnopqrstuvwxyzABCDEFGHIJKLMNOPQRSTUVWXYZ" 1327),en P "digits" 1330 (sS "0123456789" 1329),en P "hexdigits" 1335 (sS "0123456789abcdefABCDEF" 1334),en P "unquote" 1841 (.ref 61),en P "quote" 1848 (.ref 68),en P "header_encode" 1858 (.ref 76),en P "_QUOPRI_BODY_ENCODE_MAP" 1859 (.ref 78),en P "body_encode" 1886 (.ref 89),en P "decode" 1899 (.ref 97),en P "ONE_THIRD" 1905 (.float 4599676419421066581 1904),en P "ONE_SIXTH" 1909 (.float 4595172819793696085 1908),en P "TWO_THIRD" 1913 (.float 4604180019048437077 1912),en P "rgb_to_hls" 1932 (.ref 104),en P "hls_to_rgb" 1943 (.ref 111),en P "_v" 1952 (.ref 118),en P "rgb_to_hsv" 1970 (.ref 125),en P "hsv_to_rgb" 1984 (.ref 132),en P "_twin_re_1" 2002 (.ref 137),en P "_twin_re_2" 2044 (.ref 142),en P "CRLF_smtplib" 2046 (sS "\r\n" 2045),en P "quotedata" 2053 (.ref 149),en P "tspecials" 2089 (.ref 154),en P "_name_disallowed_re" 2115 (.ref 159),en P "_value_disallowed_re" 2149 (.ref 164),en P "_formatparam" 2159 (.ref 172),en P "Headers" 2316 (.ref 293),en P "_law_hue" 2332 (.ref 304),en P "_law_turned" 2338 (.ref 309),en P "_law_grey" 2348 (.ref 316),en P "_law_told" 2354 (.ref 321),en P "_law_refused" 2362 (.ref 328),en P "law" 2368 (.ref 333)]
def gD (P:aQ) (m:ay) (k n:Nat):Obj:=oD (en P "__name__" 165 m::(gE P).take k).toArray n
noncomputable def oQ (l:List ay) (n:Nat):Obj:=⟨.type "list",az,.seq l.toArray n,#[]⟩
def o3 (P:aQ):Obj:=gD P (sS "law_wv0059_01" 2317) 49 52
def Rm:Obj:=oQ (z7 256) 256
def Nq:Obj:=oQ ((vb (z7 256) yc 1347).set 32 (sS "_" 1546)) 0
def Ni:Obj:=oQ (vb (z7 256) yb 1552) 0
def Ng:Obj:=oT #[(sS "iso-8859-1" 1849)]
def Nl:Obj:=oQ (vb (vb (z7 256) yb 1552) [13,10] 1863) 0
def KD:Obj:=oT #[(.int 76 1867),(sS "\n" 291)]
def M9:Obj:=oT #[(sS "\n" 291)]
def pT (l:List Nat):Obj:=oT (iS l).toArray
def pP (s:String) (t fl a n:Nat):Obj:=oF "re.Pattern" [sS s t,.int (.ofNat fl) (t+3+n),.int 0 0,.none,.none,.ref a,.int 0 0]
noncomputable def QV:List Nat:=[14,4,0,1,1,6,1,16,46,1]
def Q9:Obj:=pT QV
def MO:Obj:=pP "(?m)^\\." 1988 40 136 10
noncomputable def Px:List Nat:=[14,9,4,1,2,16,10,16,13,0,7,7,16,13,16,10,15,18,5,16,10,15,13,11,16,13,5,5,0,16,10,1,15,2,0,1]
def Pz:Obj:=pT Px
def LI:Obj:=pP "(?:\\r\\n|\\n|\\r(?!\\n))" 2004 32 141 36
noncomputable def SS:List Nat:=[14,14,4,1,1,9,0,4227896069,939524097,0,0,0,0,0,0,13,11,9,0,4227896069,939524097,0,0,0,0,0,0,1]
noncomputable def Qy:List Nat:=[14,10,4,1,1,22,0,31,16,127,0,13,7,22,0,31,16,127,0,1]
def Qg:Obj:=pT Qy
def IW:Obj:=pP "[\\x00-\\x1F\\x7F]" 2091 32 158 20
noncomputable def Q7:List Nat:=[14,14,4,1,1,9,4294966783,0,0,2147483648,0,0,0,0,0,13,11,9,4294966783,0,0,2147483648,0,0,0,0,0,1]
def Qh:Obj:=pT Q7
def Cs:Obj:=pP "[\\x00-\\x08\\x0A-\\x1F\\x7F]" 2117 32 163 28
def IT:Obj:=oT #[.none]
def Mq:Obj:=oT #[.none]
def Sq (P:aQ):List je:=[en P "__firstlineno__" 2171 (.int 206 2170),en P "__init__" 2181 (.ref 187),en P "_convert_string_type" 2191 (.ref 194),en P "__len__" 2198 (.ref 201),en P "__setitem__" 2207 (.ref 208),en P "__delitem__" 2213 (.ref 213),en P "__getitem__" 2221 (.ref 220),en P "__contains__" 2229 (.ref 227),en P "get_all" 2235 (.ref 232),en P "get" 2246 (.ref 240),en P "keys" 2252 (.ref 245),en P "values" 2258 (.ref 250),en P "items" 2265 (.ref 257),en P "__repr__" 2272 (.ref 264),en P "__str__" 2278 (.ref 269),en P "__bytes__" 2285 (.ref 276),en P "setdefault" 2294 (.ref 283),en P "add_header" 2307 (.ref 290),en P "__static_attributes__" 2309 (.ref 291),en P "__dict__" 2311 (.ref 294),en P "__weakref__" 2313 (.ref 295),en P "__doc__" 2314 .none]
def QA (P:aQ):Obj:=oD (en P "__module__" 2167 (sS "cpy313.wsgiref.headers" 2054)::Sq P).toArray 4
noncomputable def oK (n:String) (a d:Nat) (s:Array (Option ay)):Obj:=⟨.type "type",az,.cls {name:=.ofString n,bases:=[.type "object"],mro:=[.ref a,.type "object"],ns:=d,qualname:=.ofString n,hasDict:=ai,slotNames:=[],subclasses:=[],abstract:=false,collection:=az,hasDel:=false},s⟩
def QN:Obj:=oK "Headers" 293 292 #[az,az,aa (sS "Headers" 2160),aa (sS "Headers" 2168),aa (.builtin "object.__new__"),aa (.bool ai)]
def KB (P:aQ):Frag:=[(3,o3 P),(41,Rm),(46,Nq),(48,Ni)]++(PP sj++(Rf sj++([(69,Ng)]++(Rd sj++([(78,Nl),(82,KD)]++(QM sj++([(90,M9)]++(QO sj++(L7 sj++(Mu sj++(Li sj++(L8 sj++(MU sj++([(136,Q9),(137,MO),(141,Pz),(142,LI)]++(MG sj++([(158,Qg),(159,IW),(163,Qh),(164,Cs),(180,IT)]++(Lx sj++(Ml sj++(MK sj++([(233,Mq)]++(LZ sj++(Lq sj++(L1 sj++(Mw sj++(Le sj++(La sj++([(292,QA P),(293,QN)]++(Mh sj++(Mm sj++(Mr sj++(Mk sj++(LO sj++(Fe sj)))))))))))))))))))))))))))))))))
structure qP (P:aQ) (a:aF) (fd:bz) (body:List eh):Prop where
 e:(KB P).lookup a=aa ⟨.type "function",az,.func fd,#[]⟩
 b:fd.body= .stmts body
 c:codeIn (KB P) fd.code fd.qualname=ai
theorem PO (P:aQ):qP P 61 SJ (nW (nM 16)):=⟨by kernel_rfl,rfl,by kernel_rfl⟩
theorem Qw (P:aQ):qP P 68 SZ (nW (nM 17)):=⟨by kernel_rfl,rfl,by kernel_rfl⟩
theorem Ix (P:aQ):qP P 76 SR (nW (nM 18)):=⟨by kernel_rfl,rfl,by kernel_rfl⟩
theorem B5 (P:aQ):qP P 89 wx (nW (nM 22)):=⟨by kernel_rfl,rfl,by kernel_rfl⟩
theorem CC (P:aQ):qP P 97 wW (nW (nM 23)):=⟨by kernel_rfl,rfl,by kernel_rfl⟩
theorem DZ (P:aQ):qP P 104 Ja (nW (nM 28)):=⟨by kernel_rfl,rfl,by kernel_rfl⟩
theorem H8 (P:aQ):qP P 111 R3 (nW (nM 29)):=⟨by kernel_rfl,rfl,by kernel_rfl⟩
theorem DP (P:aQ):qP P 118 Rr (nW (nM 30)):=⟨by kernel_rfl,rfl,by kernel_rfl⟩
theorem vD (P:aQ):qP P 125 yn (nW (nM 31)):=⟨by kernel_rfl,rfl,by kernel_rfl⟩
theorem DW (P:aQ):qP P 132 RL (nW (nM 32)):=⟨by kernel_rfl,rfl,by kernel_rfl⟩
theorem IM (P:aQ):qP P 149 RP (nW (nM 37)):=⟨by kernel_rfl,rfl,by kernel_rfl⟩
theorem RO (P:aQ):qP P 187 tp (nW (o0 0)):=⟨by kernel_rfl,rfl,by kernel_rfl⟩
theorem zH (P:aQ):qP P 194 BR (nW (o0 1)):=⟨by kernel_rfl,rfl,by kernel_rfl⟩
theorem Nm (P:aQ):qP P 232 Rx (nW (o0 7)):=⟨by kernel_rfl,rfl,by kernel_rfl⟩
theorem HR (P:aQ):qP P 240 Ro (nW (o0 8)):=⟨by kernel_rfl,rfl,by kernel_rfl⟩
theorem H3 (P:aQ):qP P 245 RJ (nW (o0 9)):=⟨by kernel_rfl,rfl,by kernel_rfl⟩
theorem NA (P:aQ):qP P 250 RV (nW (o0 10)):=⟨by kernel_rfl,rfl,by kernel_rfl⟩
theorem DY (P:aQ):qP P 257 Rw (nW (o0 11)):=⟨by kernel_rfl,rfl,by kernel_rfl⟩
theorem RF (P:aQ):qP P 269 RE (nW (o0 13)):=⟨by kernel_rfl,rfl,by kernel_rfl⟩
theorem DR (P:aQ):qP P 290 rE (nW (o0 16)):=⟨by kernel_rfl,rfl,by kernel_rfl⟩
theorem DU (P:aQ):qP P 304 NH (nW (nM 45)):=⟨by kernel_rfl,rfl,by kernel_rfl⟩
theorem Nf (P:aQ):qP P 309 zx (nW (nM 46)):=⟨by kernel_rfl,rfl,by kernel_rfl⟩
theorem M7 (P:aQ):qP P 316 wG (nW (nM 47)):=⟨by kernel_rfl,rfl,by kernel_rfl⟩
theorem M1 (P:aQ):qP P 321 IK (nW (nM 48)):=⟨by kernel_rfl,rfl,by kernel_rfl⟩
theorem R0 (P:aQ):qP P 328 qA (nW (nM 49)):=⟨by kernel_rfl,rfl,by kernel_rfl⟩
theorem RD (P:aQ):qP P 333 pC (nW (nM 50)):=⟨by kernel_rfl,rfl,by kernel_rfl⟩
end
section
open PySem.Calls PyProof.Rows
noncomputable def M4 (s:String):List Nat:=(aS s).cps.toList
theorem zh (s:String):aS s=S (M4 s):=by
 unfold M4 S
 simp
noncomputable def wj:List Str:=["ord","chr","len","int","str","range","enumerate","zip","sum","sorted","divmod","max","min","list","tuple","bytes","type","ValueError","TypeError","AssertionError","repr"]
structure oi (P:aQ) (h:aW):Prop where
 frag:(KB P).In h
 lim:h.NoLimit
 blt: ∃mb,h.Ns dh mb/\ ∀x∈wj,mb x=ix x
theorem oi.keep (b:oi P h) (k:mU h h'):oi P h':=
 ⟨b.frag.keeps k,b.lim.keeps k,let ⟨m,n,e⟩:=b.blt;⟨m,n.keeps k,e⟩⟩
set_option tactic.hygienic true in
theorem oi.glob (b:oi P h) (e:lV (KB P) bm x=aa (aa v)) (ok:autoParam (nsOkIn (KB P) bm=ai) XQ):BH h x v:=
 ⟨_,.of_isNs (kG b.frag ok),by
  have G:h.Ns bm (h.nsMap bm):=.of_isNs (kG b.frag ok)
  refine rZ G λo es ep ho hd _ hf=> ?_
  unfold lV at e
  split at e
  ·rename_i c d es' n' sl q
   have:=b.frag _ _ q
   rw [ho] at this
   obtain rfl:=am this
   cases hd
   rw [<-hf]
   split at e
   ·rename_i en he
    cases e
    unfold nsFind findBy
    rw [<-Array.find?_toList,he]
    rfl
   ·split at e<;>cases e
  ·exact nE e⟩
theorem oi.bltIs (b:oi P h) (e:lV (KB P) bm x=aa az) (hx:x∈wj) (hb:ix x=aa v) (ok:autoParam (nsOkIn (KB P) bm=ai) XQ):NB h x v:=by
 have G:h.Ns bm (h.nsMap bm):=.of_isNs (kG b.frag ok)
 obtain ⟨mb,n,q⟩:=b.blt
 exact ⟨_,mb,G,ns_none_of b.frag G e,n,(q x hx).trans hb⟩
theorem oi.defAt {body:List eh} (b:oi P h) (T:qP P a fd body):xW h a fd body:=
 ⟨⟨_,b.frag _ _ T.e,rfl⟩,b.lim,codeRec_of b.frag T.c,T.b⟩
def sP (P:aQ) (X:List aF):Prop:= ∀a∈X,(KB P).lookup a=az
theorem zC (b:oi P h) (hl: ∀a∈l,h.get? a=az):sP P l:=λa ha=>by
 cases e:(KB P).lookup a with
 |none=>rfl
 |some o=>have:=b.frag _ _ e;rw [hl a ha] at this;exact nE this
theorem CG (a:sP P l) (b:sP P m):sP P (l++m):=λx hx=>(ar.mp hx).elim (a x) (b x)
theorem NR (h:sP P X) (e:(KB P).lookup a=aa o):a∉X:=λq=>by rw [h a q] at e;exact nE e
def pt (n:Nat) (A:aX):Prop:=A.handled=az/\A.depth+n<dC/\A.units+10*n+100<fw
theorem pt.deeper (r:pt (n+1) A) (env:Env):pt n (A.deeper env):=by
 obtain ⟨a,b,c⟩:=r
 refine ⟨a,?_,?_⟩
 ·exact (my (.i (.b (.a xA (.a xB xI)) xC) (.b (.a (.a xA xI) xB) xC)) [_,_,_]) b
 ·exact (my (.i (.b (.a (.a xA (.m 10 (.a xB xI))) xP) xC) (.b (.a (.a (.a xA xO) (.m 10 xB)) xP) xC)) [_,_,_]) c
theorem pt.lim (r:pt n A):A.depth<dC:=cX (jE ..) r.2.1
theorem pt.less (r:pt n A) (h:m<=n):pt m A:=⟨r.1,by have:=r.2.1;exact (my (.i (.l xB xD) (.i (.b (.a xA xD) xC) (.b (.a xA xB) xC))) [_,_,_,_]) h this,by have:=r.2.2;exact (my (.i (.l xB xD) (.i (.b (.a (.a xA (.m 10 xD)) xP) xC) (.b (.a (.a xA (.m 10 xB)) xP) xC))) [_,_,_,_]) h this⟩
section
variable {prog:aH} {w:av} {c:Sc} {σ:mX} {Λ:List (aF×List PV)}
theorem ng (he:Ev prog w (fs c σ Λ) e p) (hg:mU g c.g:=by exact mU.rfl) (hY: ∀a∈Y,a∈c.X:=by exact λa h=>aM _ h):
  mT prog w c.env c.A (In c σ Λ) (.Return (aa e) pos::b) (ux g Y p):=sX (G4 he hg hY) (λz h=>h) λz z h=>h.2
theorem wg (base:oi w.params c.g) (off: ∀h,In c σ Λ h->sP w.params c.X) (gl:c.env.globals=bm) (fn:c.env.scope.kind= .function)
  (e:lV (KB w.params) bm x=aa (aa (.ref a))) (ho:(KB w.params).lookup a=aa o)
  (hl:o.cls= .type "list"/\ ∃k,o.data= .seq vs.toArray k) (hr: ∀h,mK c.X h ps vs) (hx:autoParam (c.env.kindOf x=aa .globalImplicit) XZ) (hd:autoParam ((x==("__debug__":Str))=false) XQ):
  Ev prog w (fs c σ Λ) (.Name x pos) (.list ps):=.mk λs i=>by
 have b:=base.keep i.keep
 have:=(Cz (prog:=prog) (w:=w) (φ:=fs c σ Λ) (x:=x) (pos:=pos) (v:=.ref a) (p:=.raw (.ref a)) fn hx gl (λh i=>(base.keep (In.keep i)).glob e) (λz=>o9) hd).run s i
 refine ab this (λv s' uu=>eA uu λk r=>⟨k,?_⟩) λz z e=>e
 subst r
 exact uD (NR (off _ i) ho) ⟨o,(b.keep (mG k)).frag _ _ ho,hl⟩ (hr _)
end
def rH (prog:aH) (w:av) (n:Nat) (a:aF) (ps:List PV) (p:PV):Prop:=
 ∀(A:aX) (X:List aF) (I:aW->Prop),pt n A->(∀h,I h->oi w.params h)->sP w.params X->pV prog w A X I (.ref a) ps p
section
variable {prog:aH} {w:av} {c:Sc} {σ:mX} {Λ:List (aF×List PV)}
structure Gd (w:av) (n:Nat) (c:Sc):Prop where
 base:oi w.params c.g
 off:sP w.params c.X0
 room:pt n c.A
 fn:c.env.scope.kind= .function
 gl:c.env.globals=bm
 bl:c.env.builtins=dh
theorem Gd.offX (G:Gd w n c) (i:In c σ Λ h):sP w.params c.X:=CG (zC G.base i.fresh) G.off
theorem Gd.inBase (G:Gd w n c): ∀h,In c σ Λ h->oi w.params h:=λh i=>G.base.keep i.keep
theorem ud (G:Gd w n c) (e:lV (KB w.params) bm x=aa (aa v)) (hx:autoParam (c.env.kindOf x=aa .globalImplicit) XZ) (hd:autoParam ((x==("__debug__":Str))=false) XQ):
  Ev prog w (fs c σ Λ) (.Name x pos) (.raw v):=
 Cz (v:=v) G.fn hx G.gl (λh i=>(G.inBase h i).glob e) (λz=>o9) hd
theorem rU (G:Gd w n c) (e:lV (KB w.params) bm x=aa az) (hb:ix x=aa v) (hm:autoParam (wj.elem x=ai) XQ) (hx:autoParam (c.env.kindOf x=aa .globalImplicit) XZ)
  (hd:autoParam ((x==("__debug__":Str))=false) XQ):Ev prog w (fs c σ Λ) (.Name x pos) (.raw v):=
 KI G.fn hx G.gl G.bl (λh i=>(G.inBase h i).bltIs e (kd hm) hb) hd
theorem oE (G:Gd w n c) {id:Str} (hv:lV (KB w.params) bm id=aa (aa (.ref a)))
  (ho:(KB w.params).lookup a=aa ⟨oc,od,.func fd,sl⟩) (ha:tG prog w (fs c σ Λ) pos (e::es) ps) (hc:rH prog w n a ps p) (hx:autoParam (c.env.kindOf id=aa .globalImplicit) XZ) (hd:autoParam ((id==("__debug__":Str))=false) XQ)
  (he:autoParam (aE (e::es) c.env=(false,bJ e c.env)::aE es c.env) XZ):Ev prog w (fs c σ Λ) (.Call (.Name id np) (e::es) [] pos) p:=.mk λs i=>
 (Cg (ud G hv hx hd) ha (λs i=>rB ((G.inBase _ i).frag _ _ ho) rfl) (hc c.A c.X _ G.room G.inBase (G.offX i)) he).run s i
theorem n9 (G:Gd w n c) {id:Str} (hv:lV (KB w.params) bm id=aa az) (hb:ix id=aa v) (ha:tG prog w (fs c σ Λ) pos (e::es) ps)
  (hc:pV prog w c.A c.X (In c σ Λ) v ps p) (hk:(∃i,v= .builtin i)\/ ∃t,v= .type t:=by exact .inl ⟨_,rfl⟩) (hm:autoParam (wj.elem id=ai) XQ) (hx:autoParam (c.env.kindOf id=aa .globalImplicit) XZ) (hd:autoParam ((id==("__debug__":Str))=false) XQ)
  (he:autoParam (aE (e::es) c.env=(false,bJ e c.env)::aE es c.env) XZ):Ev prog w (fs c σ Λ) (.Call (.Name id np) (e::es) [] pos) p:=
 Cg (rU G hv hb hm hx hd) ha (λs i=>by rcases hk with ⟨_,rfl⟩|⟨_,rfl⟩<;>first|exact rj|exact uh) hc he
theorem qD (ns:List Str) {ps:List PV} (T:qP w.params a fd body)
  (Ul: ∀vs:List ay,vs.length=ps.length->ey fd ⟨vs,[]⟩=bG (ns.zip vs))
  (h: ∀A X g L,n7 X g->Gd w n (mV fd a A X [] g L)->mT prog w (bf fd L a) (A.deeper (bf fd L a)) (In (mV fd a A X [] g L) (ql ns ps) []) body (ux g X p)) (F:autoParam (JI fd ns=ai) XQ):rH prog w (n+1) a ps p:=by
 have F:=v6 F
 intro A X I hr hI hO
 refine Ha ns (λh i=>(hI h i).defAt T) hr.lim (λs vs i r=>yd r Ul) F λg L i lx=> ?_
 exact h A X g L lx ⟨hI g i,hO,hr.deeper _,F.kind,F.gl,F.bl⟩
end
end
section
open PySem.Calls PyProof.Rows PySem.Builtin PySem.Builtin.Str
theorem AW {α β:Type} (f:α->β->Sem (ForInStep β)) (I:List α->β->aq->Prop)
  (h: ∀x r b s,I (x::r) b s->aC M A (f x b) (λst s'=>match st with|.yield b'=>I r b' s'|.done b'=>False) E s):
  ∀(l:List α) (b:β) (s:aq) (Q:β->aq->Prop),I l b s->(∀b' s',I [] b' s'->Q b' s')->aC M A (iC l b f) Q E s
 |[],b,s,Q,i,q=>by rw [ik];exact aj (q b s i)
 |x::r,b,s,Q,i,q=>by
  rw [cD]
  refine ae (ab (h x r b s i) (λst s' k=> ?_) λz z e=>e)
  cases st with
  |yield b'=>exact AW f I h r b' s' Q k q
  |done b'=>exact k.elim
theorem HX {α:Type} {l:List (Nat×α)} {a:α} (e:l.lookup x=aa a):(x,a)∈l:=by
 induction l with
 |nil=>simp at e
 |cons q l ih=>
  obtain ⟨y,b⟩:=q
  by_cases hy:(x==y)=ai
  ·simp [aD,hy] at e;subst e;rw [beq_iff_eq.mp hy];exact .head _
  ·simp [aD,hy] at e;exact .tail _ (ih e)
section
variable {prog:aH} {w:av} {A:aX} {X:List aF} {I:aW->Prop}
theorem Ao {vs:List ay} (hl:s.heap.IsList a vs.toArray) (hv:vs[c]? =aa (.str t u)) (hc:c<256)
  (h:Q (.text t) {s with toks:=s.toks+1}):aC (aI prog w) A (tableLookup (.ref a) c) Q E s:=by
 refine ae (lk (ae (wpAny_mkInt ?_)))
 have We:({s with toks:=s.toks+1}:aq).heap.IsList a vs.toArray:=hl
 refine wpAny_getItem_list We (by exact my (.L xJ (.k xA)) [_]) (by exact (my (.i (.b xA (.c 256)) (.B (.k xA) xS)) [_]) hc) (x:=.str t u) (by simpa using hv) ?_
 exact ae (bD (rfl:asInt? (.str t u)=bG az) (ae (bD (rfl:asStr? (.str t u)=bG (aa t)) (aj h))))
structure G6 (l:List Nat) (f:Nat->List Nat) (s:aq) (rest:List Nat) (UF:List Str) (UQ:Nat) (known:List (Nat×Option Nat)) (drop:Bool) (s':aq):Prop where
 keep:bB s s'
 at': ∃done,l=done++rest/\(UF.reverse.foldl (λUt p=>Ut++p.cps) #[]).toList=done.flatMap f/\UQ=(done.flatMap f).length
 kn: ∀q∈known,∃d,q.2=aa d/\f q.1=[d]
 dr:drop=false
section
variable {l:List Nat} {f:Nat->List Nat} {s s':aq} {rest:List Nat} {UF:List Str} {UQ:Nat} {known:List (Nat×Option Nat)} {drop:Bool}
theorem G6.next (h:G6 l f s (x::rest) UF UQ known drop s') {kn:List (Nat×Option Nat)} (k:bB s T3) (hk: ∀q∈kn,∃d,q.2=aa d/\f q.1=[d]) (hp:p=S (f x)) (hn:n=p.length):G6 l f s rest (p::UF) (UQ+n) kn false T3:=by
 refine tF h.at' λdone e hd ht=> ?_
 subst hp hn
 refine ⟨k,⟨done++[x],by rw [e,aJ];rfl,?_,by rw [ht,mW,bV,af];simp⟩,hk,rfl⟩
 rw [fi,dc,bV]
 simp only [eY,List.foldl_nil,bh,jw,bK]
 rw [lh,hd]
theorem EU (r:List Nat):(r.map λc=>(f c).length).sum=(r.flatMap f).length:=by rw [fY]
theorem G6.small (hsz:(l.map λc=>(f c).length).sum<=100000) (h:G6 l f s rest UF UQ known drop s'):decide (gx UQ=ai)=false:=by
 refine tF h.at' λdone e z T1=> ?_;obtain rfl:=T1
 rw [EU,e,bV,af] at hsz
 have:=aw
 unfold gx
 rw [decide_eq_false_iff_not,decide_eq_true_eq]
 exact (my (.i (.l (.a xB xC) (.c 100000)) (.i (.e xA xL) (.n (.b xA xB)))) [_,_,_]) hsz this
theorem Kz {α β1 β2 β3 β4 β5:Type} (f:α->β1×β2×β3×β4×β5->Sem (ForInStep (β1×β2×β3×β4×β5))) (I:List α->β1->β2->β3->β4->β5->aq->Prop)
  (h: ∀x r a b c d e s (Q:ForInStep (β1×β2×β3×β4×β5)->aq->Prop),I (x::r) a b c d e s->(∀a b c d e s,I r a b c d e s->Q (.yield (a,b,c,d,e)) s)->aC M A (f x (a,b,c,d,e)) Q E s)
  {l:List α} {a:β1} {b:β2} {c:β3} {d:β4} {e:β5} {Q:β1×β2×β3×β4×β5->aq->Prop} (i:I l a b c d e s) (q: ∀a b c d e s,I [] a b c d e s->Q (a,b,c,d,e) s):aC M A (iC l (a,b,c,d,e) f) Q E s:=
 AW f (λl p s=>I l p.1 p.2.1 p.2.2.1 p.2.2.2.1 p.2.2.2.2 s) (λx r b s i=>h x r b.1 b.2.1 b.2.2.1 b.2.2.2.1 b.2.2.2.2 s _ i λz z z z z z q=>q) l _ s Q i λz s i=>q _ _ _ _ _ s i
end
theorem yC (hl: ∀c∈l,c<256) (hsz:(l.map λc=>(f c).length).sum<=100000) (hpos: ∀c∈l,1<=(f c).length):
  pV prog w A X I (.builtin "str.translate") [.str (S l),.list ((ag 256).map λk=>.str (S (f k)))] (.str (S (l.flatMap f))):=λs vs z lx r=>by
 refine nh (sN r) λv u T1 r1 r2=> ?_;obtain rfl:=T1
 refine eE (nt r1) λt T1=> ?_;obtain rfl:=T1
 refine ni (pD r2) λa us T1 na li hr=> ?_;obtain rfl:=T1
 have at': ∀c,c<256-> ∃tk,us[c]? =aa (.str (S (f c)) tk):=λc hc=>by
  refine mR (hr.get (i:=c) (p:=.str (S (f c))) (by simp [hc])) λv e r=> ?_
  refine eE (nt r) λtk T1=> ?_;obtain rfl:=T1
  exact ⟨tk,e⟩
 have tl: ∀{x:Nat} {T0:aq} {Q:Mapped->aq->Prop},x∈l->bB s T0->(∀T3,bB s T3->Q (.text (S (f x))) T3)->aC (aI prog w) A.in1 (tableLookup (.ref a) x) Q (λe s'=>False) T0:=λ{x T0 Q} hx T2 q=>
  let ⟨tk,hat⟩:=at' x (hl x hx)
  Ao (li.at λo e=>mG T2 _ _ e) hat (hl x hx) (q _ (mH T2 (pg _ _)))
 refine dA F.slot_str_translate (dR _ _ _) F.entry_str_translate ?_ (F.args_str_translate_2 _ _)
 unfold «str.translate»
 refine ae (bD (show strOneArg "translate" ⟨[.str (S l) t,.ref a],[]⟩=bG (.str (S l) t,S l,.ref a) from rfl) ?_)
 by_cases h0:l=[]
 ·subst h0
  refine bT (by rw [mW];rfl) (ae (gJ (ae ?_)))
  exact bD (show strUnchanged (.str (S []) t) (S [])=bG (.str (S []) t) from rfl) (aj ⟨_,rfl,mO _,oh⟩)
 refine bZ (by rw [mW];simpa using h0) ?_
 clear r r1 r2 hr na li at'
 refine ae ?_
 rw [List.forIn_toArray]
 refine Kz _ (λrest UF UQ z known drop s'=>G6 l f s rest UF UQ known drop s') ?_ ⟨mO _,⟨[],rfl,rfl,rfl⟩,(λz h=>nomatch h),rfl⟩ λUF UQ fast known drop s' h=> ?_
 ·intro x rest UF UQ fast known drop s' Q h q
  have hx:x∈l:=by
   obtain ⟨done,e,_⟩:=h.at'
   rw [e];exact aM _ dy
  refine bZ (h.small hsz) ?_
  cases h.dr
  cases fast with
  |false=>
   refine bZ rfl ?_
   refine bZ rfl ?_
   refine ae (tl hx h.keep λT3 T4=> ?_)
   exact aj (q _ _ _ _ _ _ (h.next T4 h.kn rfl rfl))
  |true=>
   refine bT rfl ?_
   cases hlk:known.lookup x with
   |some an=>
    refine mR (h.kn _ (HX hlk)) λd e1 e2=> ?_
    cases e1
    refine ae (aj (aj ?_))
    exact q _ _ _ _ _ _ (h.next h.keep h.kn (by rw [e2]) rfl)
   |none=>
    refine ae (tl hx h.keep λT3 T4=> ?_)
    by_cases hone:((S (f x)).length==1&&(S (f x)).cps.all λx=>decide (x<128))=ai
    ·have Ue:(f x).length=1:=by
      have:=(aP.mp hone).1
      rw [mW] at this;simpa using this
     refine eE (List.length_eq_one_iff.mp Ue) λd hfd=> ?_
     have e0:(if ((S (f x)).length==1&&(S (f x)).cps.all λx=>decide (x<128))=ai then aa (S (f x)).cps[0]? else az)=aa (aa d):=by rw [if_pos hone,hfd];rfl
     dsimp only
     rw [e0]
     refine ae (aj (aj ?_))
     exact q _ _ _ _ _ _ (h.next T4 (λq hq=>by
      rcases ao.mp hq with rfl|hq
      ·exact ⟨d,rfl,hfd⟩
      ·exact h.kn q hq) (by rw [hfd]) rfl)
    ·have e0:(if ((S (f x)).length==1&&(S (f x)).cps.all λx=>decide (x<128))=ai then aa (S (f x)).cps[0]? else az)=az:=if_neg hone
     dsimp only
     rw [e0]
     refine ae (aj (ae (gJ ?_)))
     refine bZ rfl ?_
     refine ae (tl hx T4 λUa Uc=> ?_)
     exact aj (q _ _ _ _ _ _ (h.next Uc h.kn rfl rfl))
 ·refine bZ (h.small hsz) ?_
  refine tF h.at' λdone e hp ht=> ?_
  rw [bK] at e
  subst e
  have e2:(⟨UF.reverse.foldl (λUt p=>Ut++p.cps) #[]⟩:Str)=S (l.flatMap f):=by
   rw [<-hp]
  have:=aw
  rw [EU] at hsz
  refine ae (ge (aj ⟨_,rfl,mH h.keep (pg _ _),by rw [<-e2];exact oh⟩) (by rw [e2,mW];exact (my (.i (.l xA (.c 100000)) (.i (.e xB xL) (.l xA xB))) [_,_]) hsz this))
end
namespace Lat
theorem entry_eq {c:UInt8} {cs:List UInt8} {t u:Tok}:«bytes.decode» ⟨[.bytes (c::cs).toArray t,.str (PySem.Str.ofString "latin1") u],[]⟩=(mkStr (PySem.Str.ofString "utf-8") >>= λz=>mkStr (PySem.Str.ofString "latin1") >>= λe=>mkStr (PySem.Str.ofString "bytes.decode") >>= λd=>
  ft (.builtin "_codecs.decode.text") [.bytes (c::cs).toArray t,e,.none,d] >>= λv=>ret v):=by kernel_rfl
theorem args_2 (a b:ay):argsOk "bytes.decode" ⟨[a,b],[]⟩:=by
 unfold argsOk;rw [ll (id:="bytes.decode") (n:=['e','d','o','c','e','d']) (o:=['s','e','t','y','b']) (by kernel_rfl) PySem.W.FB.owner_bytes];kernel_rfl
theorem road_eq {id:String} {b:Array UInt8}:_codecs.decodeRoad id b (PySem.Str.ofString "latin1") az []=(_codecs.runDecoder id _codecs.latin1Decoder az ai b 0 [] >>= λr=>mkStr ⟨r.1⟩):=by kernel_rfl
theorem run_eq {id:String} {l:List UInt8} (h:l.length<=5):_codecs.runDecoder id _codecs.latin1Decoder az ai l.toArray 0 []=bG ((l.map (·.toNat)).toArray,l.length):=by
 match l,h with
 |[],_=>kernel_rfl
 |[a],_=>kernel_rfl
 |[a,b],_=>kernel_rfl
 |[a,b,c],_=>kernel_rfl
 |[a,b,c,d],_=>kernel_rfl
 |[a,b,c,d,e],_=>kernel_rfl
 |a::b::c::d::e::f::r,h=>simp at h
end Lat
noncomputable def pi:List Nat:=[48,49,50,51,52,53,54,55,56,57,65,66,67,68,69,70,97,98,99,100,101,102]
noncomputable def oo (c:Nat):Nat:=if c<58 then c - 48 else if c<91 then c - 55 else c - 87
namespace Hex
theorem read {a b:Nat} (ha:a∈pi) (hb:b∈pi):(int_private% "readNumeral") 0 16 [a,b]=(int_private% "Numeral.value") ((16*oo a+oo b:Nat):Int):=by
 have e:pi.map (λa=>pi.map λb=>(int_private% "readNumeral") 0 16 [a,b])=pi.map λa=>pi.map λb=>(int_private% "Numeral.value") ((16*oo a+oo b:Nat):Int):=by kernel_rfl
 exact mr.mp (mr.mp e a ha) b hb
theorem seen {a b:Nat} (ha:a∈pi) (hb:b∈pi):([a,b].takeWhile (· !=0))=[a,b]:=by
 have nz: ∀c∈pi,(c !=0)=ai:=by decide
 simp [List.takeWhile,nz a ha,nz b hb]
theorem wp_text {M:Model} {A:aX} {E:ay->aq->Prop} {s:aq} {Q:ay->aq->Prop} {v:ay} {text:List Nat} {n:Int}
  (hs:(text.takeWhile (· !=0)).length<=640) (hr:(int_private% "readNumeral") 0 16 (text.takeWhile (· !=0))=(int_private% "Numeral.value") n)
  (ha:((text.takeWhile (· !=0)).length==text.length)=ai) (h:Q (.int n s.toks) {s with toks:=s.toks+1}):
  aC M A ((int_private% "intFromText") v text 16) Q E s:=by
 obtain ⟨hp,g,d,tk,os⟩:=s
 repeat (any_goals (first
  |assumption
  |(with_reducible refine bT (decide_eq_true hs) ?_)
  |(with_reducible refine bT (decide_eq_true ha) ?_)
  |wp_step))
 all_goals (try rw [hr])
 all_goals (try dsimp only)
 repeat (any_goals (first
  |assumption
  |(with_reducible refine bT (decide_eq_true hs) ?_)
  |(with_reducible refine bT (decide_eq_true ha) ?_)
  |wp_step))
theorem typeCall_2 (a b:ay):checkTypeCall "int" ⟨[a,b],[]⟩=bG ():=by kernel_rfl
theorem newCall_2 (a b:ay):checkBuiltinCall "int.__new__" ⟨[.type "int",a,b],[]⟩=bG ():=by kernel_rfl
set_option maxHeartbeats 4000000 in
theorem gives {a b:Nat} {u t:Tok} (ha:a∈pi) (hb:b∈pi):PySem.Gives (Builtin.«int.__new__» ⟨[.type "int",.str (S [a,b]) u,.int 16 t],[]⟩) (.int ((16*oo a+oo b:Nat):Int)):=
 .of_wp λM A E s Q h=>by
  obtain ⟨hp,g,d,tk,os⟩:=s
  have f1:=F.conv_sub_int
  have f2:=F.madeHere_int
  have f6:kz (.str (S [a,b]) u)=bG (.type "str"):=rfl
  have low: ∀c∈pi,decide (c<128)=ai:=by decide
  have htx:(if (S [a,b]).cps.all (· <128) then (S [a,b]).cps.toList else Unicode.numberText (S [a,b]).cps.toList)=[a,b]:=by
   rw [if_pos (by simp [of_decide_eq_true (low a ha),of_decide_eq_true (low b hb)])]
  have hs:(([a,b]:List Nat).takeWhile (· !=0)).length<=640:=by rw [seen ha hb];simp
  have hr:(int_private% "readNumeral") 0 16 (([a,b]:List Nat).takeWhile (· !=0))=(int_private% "Numeral.value") ((16*oo a+oo b:Nat):Int):=by rw [seen ha hb];exact read ha hb
  have hl:((([a,b]:List Nat).takeWhile (· !=0)).length==([a,b]:List Nat).length)=ai:=by rw [seen ha hb];rfl
  have hk:=KIN.Hid.mk (And.intro hs (And.intro hr hl))
  clear hs hr hl ha hb
  repeat (any_goals (first
   |assumption
   |((with_reducible show aC _ _ ((int_private% "intFromText") _ _ _) _ _ _);rw [htx];refine wp_text hk.out.1 hk.out.2.1 hk.out.2.2 ?_)
   |wp_step))
  all_goals first|exact ⟨_,rfl,h⟩|skip
end Hex
section
variable {prog:aH} {w:av} {A:aX} {X:List aF} {I:aW->Prop}
theorem IB (h:l.length<=5) (h0:l≠[]):pV prog w A X I (.builtin "bytes.decode") [.bytes l.toArray,.str (PySem.Str.ofString "latin1")] (.str (S (l.map (·.toNat)))):=λs vs z lx r=>by
 refine nh (sN r) λv u T1 r1 r2=> ?_;obtain rfl:=T1
 refine eE r1 ?_;clear r1;intro t T1;obtain rfl:=T1
 refine eE (nt r2) λtu T1=> ?_;obtain rfl:=T1
 cases l with
 |nil=>exact absurd rfl h0
 |cons c cs=>
  refine dA lP (typeIs_bytes _ _ _) FB.entry_bytes_decode ?_ (Lat.args_2 _ _)
  rw [Lat.entry_eq]
  refine ae (ge ?_ (by decide))
  refine ae (ge ?_ (by decide))
  refine ae (ge ?_ (by decide))
  refine ae (call_function_entry KBd.kind_text KBd.plain_text KBd.entry_text (KBd.args_text _ _ _ _) ?_)
  show aC _ _ (Bytes.bytesLike _ (.bytes (c::cs).toArray t) >>= λr=>_) _ _ _
  refine ae (bD KBd.like_eq ?_)
  refine ae (bD KBd.held_eq ?_)
  rw [Lat.road_eq,Lat.run_eq h]
  refine ae (ae (aj ?_))
  refine ge (aj ⟨_,rfl,aj ⟨_,rfl,oA _ _,oh⟩⟩) ?_
  have:=aw
  rw [mW,ah];exact (my (.i (.l xA xN) (.i (.e xB xL) (.l xA xB))) [_,_]) h this
theorem J4 (ha:a∈pi) (hb:b∈pi):pV prog w A X I (.type "int") [.str (S [a,b]),.int 16] (.int ((16*oo a+oo b:Nat):Int)):=λs vs z lx r=>by
 refine nh (sN r) λv u T1 r1 r2=> ?_;obtain rfl:=T1
 refine eE (nt r1) λt T1=> ?_;obtain rfl:=T1
 refine eE (tB r2) λtu T1=> ?_;obtain rfl:=T1
 exact callType_new F.called_int F.newNe_int (Hex.typeCall_2 _ _) (Hex.newCall_2 _ _) (λobj=>F.args_object_init_3 obj _ _) F.entry_int_new (Hex.gives ha hb).meets
  (show (Made.int _).post _ s from ⟨rfl,pg _ _,tH⟩)
theorem uE: ∀{ns:List Int} {vs:List ay},mK X h (ns.map .int) vs->IntsAre vs ns
 |[],vs,r=>by subst r;exact .nil
 |n::ns,vs,r=>by
  refine nh r ?_;clear r;intro v us T1 a b;obtain rfl:=T1
  obtain ⟨t,rfl⟩:=tB a
  exact .cons _ t (uE b)
theorem Kc (hr: ∀n∈ns,0<=n/\n<256) (hz:ns.length<=1000) (hh:A.handled=az):pV prog w A X I (.type "bytes") [.list (ns.map .int)] (.bytes (byteArr ns)):=λs vs z lx r=>by
 refine mR (qJ r) λv T1 r1=> ?_;obtain rfl:=T1
 refine ni (pD r1) λD us T1 z hl h=> ?_;obtain rfl:=T1
 have:=aw
 exact call_bytes_ints hl (uE h) hr (by rw [h.len,ah];exact (my (.i (.l xA xQ) (.i (.e xB xL) (.l xA xB))) [_,_]) hz this) hh λh' t k hk=>⟨⟨h',k,rfl,hk⟩,by exact ⟨t,rfl⟩⟩
end
end
section
open PySem.Calls PyProof.Rows PySem.Builtin PySem.Builtin.Re
open Sre (M)
theorem zZ {m:M} (h:m.outcome.isSome=ai): ∀n,m.runFor n=m
 |0=>rfl
 |n+1=>by unfold M.runFor;rw [if_pos h]
theorem nN (a:Nat): ∀(b:Nat) (m:M),m.runFor (a+b)=(m.runFor a).runFor b:=by
 induction a with
 |zero=>intro b m;rw [Nat.zero_add];rfl
 |succ a ih=>
  intro b m
  rw [show a+1+b=(a+b)+1 by exact my (.e (.a (.a xA xI) xB) (.a (.a xA xB) xI)) [_,_]]
  show (if m.outcome.isSome=ai then m else M.runFor (a+b) m.step)=(if m.outcome.isSome=ai then m else M.runFor a m.step).runFor b
  by_cases h:m.outcome.isSome=ai
  ·rw [if_pos h,if_pos h,zZ h]
  ·rw [if_neg h,if_neg h,ih]
theorem w6 {m:M} (h:(m.runFor N).outcome.isSome=ai) {K:Nat} (hk:N<=K):m.runFor K=m.runFor N:=by
 rw [show K=N+(K - N) by exact (my (.i (.l xB xA) (.e xA (.a xB (.s xA xB)))) [_,_]) hk,nN,zZ h]
section
variable {prog:aH} {w:av} {A:aX} {E:ay->aq->Prop}
theorem BG: ∀(turns:Nat) (m:M) (N:Nat) (s:aq) (Q:M->aq->Prop),N<=4*turns->0<turns->(m.runFor N).outcome.isSome=ai->Q (m.runFor N) s->aC Mo A (reDrive turns m) Q E s
 |0,_,_,_,_,_,h,_,_=>absurd h (bY _)
 |turns+1,m,N,s,Q,hN,_,ho,q=>by
  unfold reDrive
  by_cases h4:(m.runFor reTurnSteps).outcome.isSome=ai
  ·rw [if_pos h4]
   refine aj ?_
   have:m.runFor reTurnSteps=m.runFor N:=by
    by_cases Vm:N<=reTurnSteps
    ·exact w6 ho Vm
    ·exact (w6 h4 (by exact (my (.i (.n (.l xB xA)) (.l xA xB)) [_,_]) Vm)).symm
   exact this▸q
  ·rw [if_neg h4]
   have Un: ¬N<=4:=λVm=>h4 (by exact (show m.runFor reTurnSteps=m.runFor N from w6 ho Vm)▸ho)
   have e:(m.runFor reTurnSteps).runFor (N - 4)=m.runFor N:=by
    rw [<-nN]
    congr 1
    exact (my (.i (.n (.l xA xK)) (.e (.a xK (.s xA xK)) xA)) [_]) Un
   refine ae (gJ ?_)
   exact BG turns _ (N - 4) s Q (by exact (my (.i (.l xA (.m 4 (.a xB xI))) (.l (.s xA xK) (.m 4 xB))) [_,_]) hN) (by exact (my (.i (.l xB (.m 4 (.a xA xI))) (.i (.n (.l xB xK)) (.b xJ xA))) [_,_]) hN Un) (by exact e▸ho) (by exact e▸q)
theorem Eu (hN:N<=2^66) (h:match (m.runFor N).outcome with|some .matched=>Q (aa (m.runFor N)) s|some .failed=>Q az s|_=>False):aC Mo A (reRunToEnd m) Q E s:=by
 have ho:(m.runFor N).outcome.isSome=ai:=by
  cases e:(m.runFor N).outcome with
  |none=>rw [e] at h;exact h.elim
  |some _=>rfl
 refine ae (BG (2^64) m N s _ (by omega) (by decide) ho ?_)
 refine ae (AW _ (λz z s'=>s'=s) (λx r b T0 e=> ?_) _ _ s _ rfl λz T0 e=> ?_)
 ·subst e
  split
  ·exact ae (gJ (aj rfl))
  ·exact aj rfl
 ·subst e
  cases e:(m.runFor N).outcome with
  |none=>rw [e] at ho;exact oJ ho
  |some o=>
   rw [e] at h
   cases o with
   |matched=>exact aj h
   |failed=>exact aj h
   |stuck why=>exact h.elim
end
noncomputable def ui:Array Nat:= #[14,10,4,1,1,22,0,31,16,127,0,13,7,22,0,31,16,127,0,1]
noncomputable def o8:Array Nat:= #[14,14,4,1,1,9,4294966783,0,0,2147483648,0,0,0,0,0,13,11,9,4294966783,0,0,2147483648,0,0,0,0,0,1]
noncomputable def Hj (c:Nat):Bool:=dg c 31||c==127
def vc (c:Nat):Bool:=decide (c<256)&&(o8.getD (6+c/32) 0).testBit (c % 32)
theorem Pg (c:Nat) (seen:cv): ∃Uf,ec ui c 20 5 ai seen= .ok (Hj c,Uf):=by
 have e:ec ui c 20 5 ai seen=if (decide (0<=c)&&decide (c<=31))=ai then .ok (ai,seen.add 22) else if (c==127)=ai then .ok (ai,(seen.add 22).add 16) else .ok (false,((seen.add 22).add 16).add 0):=rfl
 rw [e]
 unfold Hj
 by_cases h1:c<=31
 ·exact ⟨seen.add 22,by simp [h1,mc.mpr h1]⟩
 ·have:dg c 31=false:=by rw [Bool.eq_false_iff];exact λq=>h1 (mc.mp q)
  by_cases h2:c=127
  ·exact ⟨(seen.add 22).add 16,by simp [h2]⟩
  ·exact ⟨((seen.add 22).add 16).add 0,by simp [h1,h2,this]⟩
theorem He (c:Nat) (seen:cv): ∃Uf,ec o8 c 28 5 ai seen= .ok (vc c,Uf):=by
 have e:ec o8 c 28 5 ai seen=if (decide (c<256)&&(o8.getD (5+(1+c/32)) 0).testBit (c % 32))=ai then .ok (ai,seen.add 9) else .ok (false,(seen.add 9).add 0):=rfl
 rw [e]
 unfold vc
 rw [show 5+(1+c/32)=6+c/32 by exact my (.e (.a xN (.a xI (.d xA 32))) (.a (.c 6) (.d xA 32))) [_]]
 cases (decide (c<256)&&(o8.getD (6+c/32) 0).testBit (c % 32))<;>exact ⟨_,rfl⟩
theorem yE {cl:Nat->Bool} (qZ: ∀c seen,∃Uf,ec m.code c m.code.size 5 ai seen= .ok (cl c,Uf)):
  ∀(fuel s:Nat) (seen:cv),(∀i,s<=i->i<m.lim->cl (m.text.getD i 0)=false)-> ∃Uf,M.admitted m fuel s seen= .ok (az,Uf)
 |0,s,seen,_=>⟨seen,rfl⟩
 |fuel+1,s,seen,h=>by
  unfold M.admitted
  by_cases hs:s>=m.lim
  ·exact ⟨seen,by rw [if_pos hs]⟩
  ·rw [if_neg hs]
   refine eE (qZ (m.text.getD s 0) seen) λUf e=> ?_
   rw [e,h s (aN _) (by exact (my (.i (.n (.l xB xA)) (.b xA xB)) [_,_]) hs)]
   exact yE qZ fuel (s+1) Uf λi hi=>h i (by exact (my (.i (.l (.a xA xI) xB) (.l xA xB)) [_,_]) hi)
theorem yF {cl:Nat->Bool} (qZ: ∀c seen,∃Uf,ec m.code c m.code.size 5 ai seen= .ok (cl c,Uf)) (hk:k<m.lim) (hc:cl (m.text.getD k 0)=ai):
  ∀(fuel s:Nat) (seen:cv),s<=k->k - s<fuel->(∀i,s<=i->i<k->cl (m.text.getD i 0)=false)-> ∃Uf,M.admitted m fuel s seen= .ok (aa k,Uf)
 |0,s,seen,_,hf,_=>by exact ((my (.n (.b (.s xA xB) xJ)) [_,_]) hf).elim
 |fuel+1,s,seen,hs,hf,h=>by
  unfold M.admitted
  rw [if_neg (by exact (my (.i (.b xC xA) (.i (.l xB xC) (.n (.l xA xB)))) [_,_,_]) hk hs)]
  refine eE (qZ (m.text.getD s 0) seen) λUf e=> ?_
  rw [e]
  by_cases hsk:s=k
  ·subst hsk;rw [hc];exact ⟨_,rfl⟩
  ·rw [h s (aN _) (by exact (my (.i (.l xA xB) (.i (.n (.e xA xB)) (.b xA xB))) [_,_]) hs hsk)]
   exact yF qZ hk hc fuel (s+1) Uf (by exact (my (.i (.l xA xB) (.i (.n (.e xA xB)) (.l (.a xA xI) xB))) [_,_]) hs hsk) (by exact (my (.i (.l xB xA) (.i (.b (.s xA xB) (.a xC xI)) (.i (.n (.e xB xA)) (.b (.s xA (.a xB xI)) xC)))) [_,_,_]) hs hf hsk) λi hi=>h i (by exact (my (.i (.l (.a xA xI) xB) (.l xA xB)) [_,_]) hi)
noncomputable def m0 (code T:Array Nat) (pc p lim:Nat):M:={code,text:=T,lim,start:=p,pc,pos:=p,handed:=p,marks:= #[],seen:=({}:cv).add 14}
theorem MJ (T:Array Nat) (p lim:Nat):bk ui T 0 p lim false=if (decide (p>lim)||decide (lim - p<1))=ai then (m0 ui T 11 p lim).say false else M.attemptFrom {m0 ui T 11 p lim with lastStart:=lim} p ai:=rfl
theorem FP (T:Array Nat) (p lim:Nat):bk o8 T 0 p lim false=if (decide (p>lim)||decide (lim - p<1))=ai then (m0 o8 T 15 p lim).say false else M.attemptFrom {m0 o8 T 15 p lim with lastStart:=lim} p ai:=rfl
theorem uf {m:M} (ho:m.outcome=az) (hf:m.frames=[]):((m.say false).runFor 1).outcome=aa .failed:=by
 obtain ⟨code,text,lim,start,ls,wt,ma,pc,pos,handed,om,marks,lm,li,loops,inner,frames,weight,answer,seen,outcome⟩:=m
 dsimp only at ho hf
 subst ho hf
 rfl
theorem wq {m:M} {cl:Nat->Bool} (qZ: ∀c seen,∃Uf,ec m.code c m.code.size 5 ai seen= .ok (cl c,Uf)) (hf:m.hasFirstSet=ai) (ho:m.outcome=az) (hfr:m.frames=[]) (p:Nat) (b:Bool)
  (h: ∀i,p<=i->i<m.lim->cl (m.text.getD i 0)=false):((m.attemptFrom p b).runFor 1).outcome=aa .failed:=by
 unfold M.attemptFrom
 rw [hf]
 refine eE (yE qZ (m.lim+1 - p) p m.seen h) λUf e=> ?_
 simp only [iN,a9,if_false,e]
 exact uf (m:={m with seen:=Uf}) ho hfr
theorem Fj (h: ∀i,i<T.size->Hj (T.getD i 0)=false):((bk ui T 0 0 T.size false).runFor 1).outcome=aa .failed:=by
 rw [MJ]
 split
 ·exact uf rfl rfl
 ·exact wq (m:={m0 ui T 11 0 T.size with lastStart:=T.size}) Pg rfl rfl rfl 0 ai λi z hi=>h i hi
theorem E6 (h: ∀i,i<T.size->vc (T.getD i 0)=false):((bk o8 T 0 0 T.size false).runFor 1).outcome=aa .failed:=by
 rw [FP]
 split
 ·exact uf rfl rfl
 ·exact wq (m:={m0 o8 T 15 0 T.size with lastStart:=T.size}) He rfl rfl rfl 0 ai λi z hi=>h i hi
structure Q where
 code:Array Nat
 text:Array Nat
 lim:Nat
 start:Nat
 ls:Nat
noncomputable def Q.R (q:Q) (pc pos handed:Nat) (om:Bool) (frames:List iE) (weight:Nat) (answer:Option Bool) (seen:cv):M:=
 {code:=q.code,text:=q.text,lim:=q.lim,start:=q.start,lastStart:=q.ls,pc,pos,handed,outermost:=om,marks:= #[],frames,weight,answer,seen}
noncomputable def Q.F (q:Q) (wait:Sre.Wait) (pc pos:Nat) (om:Bool):iE:={wait,pc,pos,outermost:=om}
section
variable {q:Q} {pc pos handed:Nat} {om:Bool} {frames:List iE} {weight:Nat} {seen:cv}
noncomputable def Al (T:Array Nat) (pos lim x:Nat) (a b:M):M:=if pos>=lim then b else cond (T.getD pos 0==x) a b
theorem vK (h:pos<lim) (e:T.getD pos 0=x):Al T pos lim x a b=a:=by
 unfold Al;rw [if_neg (l9.mpr h),e,beq_self_eq_true];rfl
theorem y5 (h:pos<lim->T.getD pos 0≠x):Al T pos lim x a b=b:=by
 unfold Al
 by_cases q:pos>=lim
 ·rw [if_pos q]
 ·rw [if_neg q,beq_false_of_ne (h (l9.mp q))];rfl
theorem srch (h:p<lim): ¬((decide (p>lim)||decide (lim - p<1))=ai):=by
 simp only [Bool.or_eq_true,decide_eq_true_eq];exact (my (.i (.b xB xA) (.n (.o (.b xA xB) (.b (.s xA xB) xI)))) [_,_]) h
theorem Ju {b:Bool} {w:Nat}:(q.R pc pos handed om [] w (aa b) seen).step.outcome=aa (if b then .matched else .failed)/\(q.R pc pos handed om [] w (aa b) seen).step.handed=handed/\(q.R pc pos handed om [] w (aa b) seen).step.start=q.start/\
  (q.R pc pos handed om [] w (aa b) seen).step.marks= #[]/\(q.R pc pos handed om [] w (aa b) seen).step.lastmark= -1/\(q.R pc pos handed om [] w (aa b) seen).step.lastindex= -1:=by
 cases b<;>exact ⟨rfl,rfl,rfl,rfl,rfl,rfl⟩
theorem AT {m m':M} (h:m.step=m') (ho:m.outcome=az):m.runFor (n+1)=m'.runFor n:=by
 show (if m.outcome.isSome=ai then m else M.runFor n m.step)=_
 rw [ho,h];rfl
end
def un (m:M) (b e:Nat):Prop:= ∃N,N<=10000/\(m.runFor N).outcome=aa .matched/\(m.runFor N).start=b/\(m.runFor N).handed=e/\(m.runFor N).marks= #[]/\(m.runFor N).lastmark= -1/\(m.runFor N).lastindex= -1
noncomputable def rT:Array Nat:= #[14,9,4,1,2,16,10,16,13,0,7,7,16,13,16,10,15,18,5,16,10,15,13,11,16,13,5,5,0,16,10,1,15,2,0,1]
noncomputable def wy (c:Nat):Bool:=c==10||c==13
theorem Hu (c:Nat) (seen:cv): ∃Uf,ec rT c 36 5 ai seen= .ok (wy c,Uf):=by
 have e:ec rT c 36 5 ai seen=if (c==10)=ai then .ok (ai,seen.add 16) else if (c==13)=ai then .ok (ai,(seen.add 16).add 16) else .ok (false,((seen.add 16).add 16).add 0):=rfl
 rw [e]
 unfold wy
 cases h1:c==10
 ·cases h2:c==13
  ·exact ⟨_,rfl⟩
  ·exact ⟨_,rfl⟩
 ·exact ⟨_,rfl⟩
theorem Fi (T:Array Nat) (p lim:Nat):bk rT T 0 p lim false=if (decide (p>lim)||decide (lim - p<1))=ai then (m0 rT T 10 p lim).say false else M.attemptFrom {m0 rT T 10 p lim with lastStart:=lim} p ai:=rfl
theorem y8 {q:Q} {pc pos handed:Nat} {om:Bool} {w:Nat} {seen:cv} {m:M} {N:Nat} (hN:N<=9000) (h:m.runFor N=q.R pc pos handed om [] w (aa ai) seen):un m q.start handed:=by
 have e:m.runFor (N+1)=(q.R pc pos handed om [] w (aa ai) seen).step:=by
  rw [nN,h];rfl
 have z:= @Ju q pc pos handed om seen ai w
 refine ⟨N+1,by exact (my (.i (.l xA (.c 9000)) (.l (.a xA xI) (.c 10000))) [_]) hN,?_⟩
 rw [e]
 exact ⟨z.1,z.2.2.1,z.2.1,z.2.2.2.1,z.2.2.2.2.1,z.2.2.2.2.2⟩
theorem Cj (hf:m.hasFirstSet=ai) (e:M.admitted m (m.lim+1 - p) p m.seen= .ok (aa k,Uf)):
  m.attemptFrom p b=M.attemptAt {m with mustAdvance:=false,seen:=Uf} k b:=by
 unfold M.attemptFrom
 rw [hf]
 simp only [iN,a9,if_false]
 rw [e]
section
variable {T:Array Nat} {p k lim:Nat}
theorem BM {code:Array Nat} {cl:Nat->Bool} (qZ: ∀c seen,∃Uf,ec code c code.size 5 ai seen= .ok (cl c,Uf)) (hf:(m0 code T pc p lim).hasFirstSet=ai) (hp:p<=k) (hk:k<lim)
  (UM: ∀i,p<=i->i<k->cl (T.getD i 0)=false) (hc:cl (T.getD k 0)=ai):
  ∃seen,M.attemptFrom {m0 code T pc p lim with lastStart:=lim} p ai=(⟨code,T,lim,k,lim⟩:Q).R pc k k ai [(⟨code,T,lim,k,lim⟩:Q).F .nextStart pc k ai] 1 az seen:=by
 generalize hm:({m0 code T pc p lim with lastStart:=lim}:M)=m
 have h1:m.hasFirstSet=ai:=by exact hm▸hf
 have h2:m.code=code:=by rw [<-hm];rfl
 have h3:m.text=T:=by rw [<-hm];rfl
 have h4:m.lim=lim:=by rw [<-hm];rfl
 refine eE (yF (m:=m) (by exact h2▸qZ) (k:=k) (by exact h4▸hk) (by exact h3▸hc) (m.lim+1 - p) p m.seen hp (by exact h4▸((my (.i (.l xB xA) (.i (.b xA xC) (.b (.s xA xB) (.s (.a xC xI) xB)))) [_,_,_]) hp hk)) (by exact h3▸UM)) λUf e=> ?_
 refine ⟨Uf,?_⟩
 rw [Cj h1 e,<-hm]
 rfl
def qC (T:Array Nat) (lim s:Nat):Q:=⟨rT,T,lim,s,lim⟩
def fC (T:Array Nat) (lim k:Nat):List iE:=[(qC T lim k).F .nextStart 10 k ai]
def bC (T:Array Nat) (lim k a:Nat):List iE:={(qC T lim k).F .nextBranch a k ai with kept:={}}::fC T lim k
variable {seen:cv}
theorem Lc:((qC T lim k).R 10 k k ai (fC T lim k) 1 az seen).runFor 2=
  Al T k lim 13 ((qC T lim k).R 14 (k+1) k ai (bC T lim k 11) 2 az ((seen.add 7).add 16)) ((qC T lim k).R 12 k k ai (bC T lim k 11) 2 (aa false) ((seen.add 7).add 16)):=by kernel_rfl
theorem PT:((qC T lim k).R 14 (k+1) k ai (bC T lim k 11) 2 az seen).runFor 1=
  Al T (k+1) lim 10 ((qC T lim k).R 16 (k+2) k ai (bC T lim k 11) 2 az (seen.add 16)) ((qC T lim k).R 14 (k+1) k ai (bC T lim k 11) 2 (aa false) (seen.add 16)):=by kernel_rfl
theorem SY:((qC T lim k).R 16 (k+2) k ai (bC T lim k 11) 2 az seen).runFor 4=(qC T lim k).R 10 k (k+2) ai [] 0 (aa ai) ((seen.add 15).add 1):=by kernel_rfl
theorem QD:((qC T lim k).R pc p' h' ai (bC T lim k 11) 2 (aa false) seen).runFor 2=
  Al T k lim 10 ((qC T lim k).R 21 (k+1) k ai (bC T lim k 18) 2 az (seen.add 16)) ((qC T lim k).R 19 k k ai (bC T lim k 18) 2 (aa false) (seen.add 16)):=by kernel_rfl
theorem Tp:((qC T lim k).R 21 (k+1) k ai (bC T lim k 18) 2 az seen).runFor 4=(qC T lim k).R 10 k (k+1) ai [] 0 (aa ai) ((seen.add 15).add 1):=by kernel_rfl
theorem SI:((qC T lim k).R 19 k k ai (bC T lim k 18) 2 (aa false) seen).runFor 2=
  Al T k lim 13 ((qC T lim k).R 26 (k+1) k ai (bC T lim k 23) 2 az (seen.add 16)) ((qC T lim k).R 24 k k ai (bC T lim k 23) 2 (aa false) (seen.add 16)):=by kernel_rfl
def lC (T:Array Nat) (lim k:Nat):List iE:={(qC T lim k).F .lookNot 26 (k+1) ai with kept:={}}::bC T lim k 23
theorem SV:((qC T lim k).R 26 (k+1) k ai (bC T lim k 23) 2 az seen).runFor 2=
  Al T (k+1) lim 10 ((qC T lim k).R 31 (k+2) (k+1) false (lC T lim k) 3 az ((seen.add 5).add 16)) ((qC T lim k).R 29 (k+1) (k+1) false (lC T lim k) 3 (aa false) ((seen.add 5).add 16)):=by kernel_rfl
theorem S6:((qC T lim k).R 29 (k+1) (k+1) false (lC T lim k) 3 (aa false) seen).runFor 5=(qC T lim k).R 10 k (k+1) ai [] 0 (aa ai) ((seen.add 15).add 1):=by kernel_rfl
theorem Cc (hp:p<=k) (hk:k<lim) (UM: ∀i,p<=i->i<k->wy (T.getD i 0)=false) (hc:wy (T.getD k 0)=ai) (hN:N<=9000) (h: ∀s0,∃s1,((qC T lim k).R 10 k k ai (fC T lim k) 1 az s0).runFor N=(qC T lim k).R 10 k e ai [] 0 (aa ai) s1):un (bk rT T 0 p lim false) k e:=by
 rw [Fi,if_neg (srch (cX hp hk))]
 refine eE (BM (T:=T) (p:=p) (k:=k) (lim:=lim) (code:=rT) (pc:=10) Hu rfl hp hk UM hc) λs0 q=> ?_
 refine eE (h s0) λs1 r=> ?_
 rw [q]
 exact y8 (q:=qC T lim k) hN r
theorem E3 (hp:p<=k) (hk:k+1<lim) (UM: ∀i,p<=i->i<k->wy (T.getD i 0)=false) (h0:T.getD k 0=13) (h1:T.getD (k+1) 0=10):un (bk rT T 0 p lim false) k (k+2):=
 Cc hp (gH hk) UM (by rw [h0];rfl) (N:=2+1+4) (by decide) λs0=>⟨_,by
  rw [nN,nN,Lc,vK (gH hk) h0,PT,vK hk h1,SY]⟩
theorem IZ (hp:p<=k) (hk:k<lim) (UM: ∀i,p<=i->i<k->wy (T.getD i 0)=false) (h0:T.getD k 0=10):un (bk rT T 0 p lim false) k (k+1):=
 Cc hp hk UM (by rw [h0];rfl) (N:=2+2+4) (by decide) λs0=>⟨_,by
  rw [nN,nN,Lc,y5 (λz=>by rw [h0];decide),QD,vK hk h0,Tp]⟩
theorem HO (hp:p<=k) (hk:k<lim) (UM: ∀i,p<=i->i<k->wy (T.getD i 0)=false) (h0:T.getD k 0=13) (h1:k+1<lim->T.getD (k+1) 0≠10):un (bk rT T 0 p lim false) k (k+1):=
 Cc hp hk UM (by rw [h0];rfl) (N:=2+1+2+2+2+5) (by decide) λs0=>⟨_,by
  rw [nN,nN,nN,nN,nN,Lc,vK hk h0,PT,y5 h1,QD,y5 (λz=>by rw [h0];decide),SI,vK hk h0,SV,y5 h1,S6]⟩
end
noncomputable def wL:Array Nat:= #[14,4,0,1,1,6,1,16,46,1]
section
variable {T:Array Nat} {lim:Nat}
def qd (T:Array Nat) (lim s:Nat):Q:=⟨wL,T,lim,s,lim⟩
def DC (T:Array Nat) (lim s:Nat) (om:Bool) (seen:cv):M:=(qd T lim s).R 5 s s om [(qd T lim s).F .nextStart 5 s om] 1 az seen
theorem Fh (T:Array Nat) (p lim:Nat):bk wL T 0 p lim false=if (decide (p>lim)||decide (lim - p<1))=ai then (m0 wL T 5 p lim).say false else DC T lim p ai (({}:cv).add 14):=rfl
theorem EJ {seen:cv}:((qd T lim s).R pc' p' hd WI [(qd T lim s).F .nextStart 5 s om] 1 (aa false) seen).step=
  if s<lim then DC T lim (s+1) false seen else (qd T lim s).R 5 s hd om [] 0 (aa false) seen:=rfl
noncomputable def wP (T:Array Nat) (s:Nat):Bool:=s==0||T.getD (s - 1) 0==10
def rD (T:Array Nat) (lim s pc pos hd:Nat) (om:Bool) (a:Option Bool) (seen:cv):M:=(qd T lim s).R pc pos hd om [(qd T lim s).F .nextStart 5 s om] 1 a seen
theorem Rk {seen:cv}:(DC T lim s om seen).runFor 1=cond (wP T s) (rD T lim s 7 s s om az ((seen.add 6).add 44)) (rD T lim s 5 s s om (aa false) ((seen.add 6).add 44)):=by
 have h:(DC T lim s om seen).runFor 1=if wP T s=ai then rD T lim s 7 s s om az ((seen.add 6).add 44) else rD T lim s 5 s s om (aa false) ((seen.add 6).add 44):=by kernel_rfl
 rw [h]
 cases wP T s<;>rfl
theorem Si {seen:cv}:(rD T lim s 7 s s om az seen).runFor 1=Al T s lim 46 (rD T lim s 9 (s+1) s om az (seen.add 16)) (rD T lim s 7 s s om (aa false) (seen.add 16)):=by kernel_rfl
theorem TX {seen:cv}:(rD T lim s 9 (s+1) s om az seen).runFor 2=(qd T lim s).R 5 s (s+1) om [] 0 (aa ai) (seen.add 1):=by cases om<;>kernel_rfl
theorem Rp {seen:cv} (hs:s<lim) (ha:wP T s=ai) (hc:T.getD s 0=46): ∃Uf,(DC T lim s om seen).runFor 4=(qd T lim s).R 5 s (s+1) om [] 0 (aa ai) Uf:=
 ⟨_,by rw [show 4=1+1+2 from rfl,nN,nN,Rk,ha,cond_true,Si,vK hs hc,TX]⟩
theorem Ft {seen:cv} (h:s<lim->wP T s=ai->T.getD s 0≠46): ∃n Uf pc' p' hd WI,n<=2/\(DC T lim s om seen).runFor n=(qd T lim s).R pc' p' hd WI [(qd T lim s).F .nextStart 5 s om] 1 (aa false) Uf:=by
 cases ha:wP T s with
 |false=>exact ⟨1,_,_,_,_,_,by decide,by rw [Rk,ha];rfl⟩
 |true=>exact ⟨1+1,_,_,_,_,_,by decide,by rw [nN,Rk,ha,cond_true,Si,y5 λz=>h z ha];rfl⟩
theorem FJ: ∀(n s k:Nat) (om:Bool) (seen:cv),k=s+n->k<lim->(∀i,s<=i->i<k->wP T i=ai->T.getD i 0≠46)->wP T k=ai->T.getD k 0=46->
  ∃N Uf pc pos WI,N<=3*n+4/\(DC T lim s om seen).runFor N=(qd T lim k).R pc pos (k+1) WI [] 0 (aa ai) Uf
 |0,s,k,om,seen,e,hk,_,ha,hc=>by
  rw [Nat.add_zero] at e;subst e
  refine eE (Rp (om:=om) (seen:=seen) hk ha hc) λUf r=> ?_
  exact ⟨4,Uf,_,_,_,by exact my (.l xK (.a (.m 3 xJ) xK)) [] [],r⟩
 |n+1,s,k,om,seen,e,hk,UM,ha,hc=>by
  refine AG (Ft (T:=T) (lim:=lim) (s:=s) (om:=om) (seen:=seen) (λz=>UM s (aN _) (by exact (my (.i (.e xB (.a xA (.a xC xI))) (.b xA xB)) [_,_,_]) e))) λm s1 pc' p' hd WI hm r=> ?_
  refine GN (FJ n (s+1) k false s1 (by exact (my (.i (.e xA (.a xB (.a xC xI))) (.e xA (.a (.a xB xI) xC))) [_,_,_]) e) hk (λi hi=>UM i (by exact (my (.i (.l (.a xA xI) xB) (.l xA xB)) [_,_]) hi)) ha hc) λN s2 a b d hN r2=> ?_
  refine ⟨m+(1+N),s2,a,b,d,by exact (my (.i (.l xA xM) (.i (.l xB (.a (.m 3 xC) xK)) (.l (.a xA (.a xI xB)) (.a (.m 3 (.a xC xI)) xK)))) [_,_,_]) hm hN,?_⟩
  rw [nN,r,nN]
  rw [AT (EJ (T:=T) (lim:=lim) (s:=s)) rfl,if_pos (by exact (my (.i (.e xC (.a xA (.a xD xI))) (.i (.b xC xB) (.b xA xB))) [_,_,_,_]) e hk)]
  exact r2
theorem GR: ∀(n s:Nat) (om:Bool) (seen:cv),lim=s+n->(∀i,s<=i->i<lim->wP T i=ai->T.getD i 0≠46)->
  ∃N Uf pc pos hd WI s',N<=3*n+4/\(DC T lim s om seen).runFor N=(qd T lim s').R pc pos hd WI [] 0 (aa false) Uf
 |0,s,om,seen,e,UM=>by
  refine AG (Ft (T:=T) (lim:=lim) (s:=s) (om:=om) (seen:=seen) (λz=>absurd z (by exact (my (.i (.e xB (.a xA xJ)) (.n (.b xA xB))) [_,_]) e))) λm s1 pc' p' hd WI hm r=> ?_
  refine ⟨m+1,s1,5,s,hd,om,s,by exact (my (.i (.l xA xM) (.l (.a xA xI) (.a (.m 3 xJ) xK))) [_]) hm,?_⟩
  rw [nN,r,AT (EJ (T:=T) (lim:=lim) (s:=s)) rfl,if_neg (by exact (my (.i (.e xB (.a xA xJ)) (.n (.b xA xB))) [_,_]) e)];rfl
 |n+1,s,om,seen,e,UM=>by
  refine AG (Ft (T:=T) (lim:=lim) (s:=s) (om:=om) (seen:=seen) (λz=>UM s (aN _) z)) λm s1 pc' p' hd WI hm r=> ?_
  refine CN (GR n (s+1) false s1 (by exact (my (.i (.e xA (.a xB (.a xC xI))) (.e xA (.a (.a xB xI) xC))) [_,_,_]) e) λi hi=>UM i (by exact (my (.i (.l (.a xA xI) xB) (.l xA xB)) [_,_]) hi)) λN s2 a b c d s' hN r2=> ?_
  refine ⟨m+(1+N),s2,a,b,c,d,s',by exact (my (.i (.l xA xM) (.i (.l xB (.a (.m 3 xC) xK)) (.l (.a xA (.a xI xB)) (.a (.m 3 (.a xC xI)) xK)))) [_,_,_]) hm hN,?_⟩
  rw [nN,r,nN]
  rw [AT (EJ (T:=T) (lim:=lim) (s:=s)) rfl,if_pos (by exact (my (.i (.e xB (.a xA (.a xC xI))) (.b xA xB)) [_,_,_]) e)]
  exact r2
theorem Pr (hz:lim<=1000) (hp:p<=k) (hk:k<lim) (UM: ∀i,p<=i->i<k->wP T i=ai->T.getD i 0≠46) (ha:wP T k=ai) (hc:T.getD k 0=46):un (bk wL T 0 p lim false) k (k+1):=by
 rw [Fh,if_neg (srch (cX hp hk))]
 refine GN (FJ (T:=T) (lim:=lim) (k - p) p k ai (({}:cv).add 14) (by exact (my (.i (.l xB xA) (.e xA (.a xB (.s xA xB)))) [_,_]) hp) hk UM ha hc) λN s' a b d hN r=> ?_
 exact y8 (by exact (my (.i (.l xB xQ) (.i (.b xC xB) (.i (.l xA (.a (.m 3 (.s xC xD)) xK)) (.l xA (.c 9000))))) [_,_,_,_]) hz hk hN) r
def yo (m:M):Prop:= ∃N,N<=10000/\(m.runFor N).outcome=aa .failed
theorem BL (hz:lim<=1000) (UM: ∀i,p<=i->i<lim->wP T i=ai->T.getD i 0≠46):yo (bk wL T 0 p lim false):=by
 rw [Fh]
 split
 ·exact ⟨1,by decide,uf rfl rfl⟩
 ·rename_i h
  have h: ¬(p>lim)/\ ¬(lim - p<1):=by simpa using h
  refine CN (GR (T:=T) (lim:=lim) (lim - p) p ai (({}:cv).add 14) (by exact (my (.i (.n (.b (.s xA xB) xI)) (.e xA (.a xB (.s xA xB)))) [_,_]) h.2) UM) λN s' a b c d Vp hN r=> ?_
  refine ⟨N+1,by exact (my (.i (.l xB xQ) (.i (.l xA (.a (.m 3 (.s xB xC)) xK)) (.l (.a xA xI) (.c 10000)))) [_,_,_]) hz hN,?_⟩
  rw [nN,r]
  exact (@Ju _ _ _ _ _ _ false _).1
theorem J7 (UM: ∀i,p<=i->i<lim->wy (T.getD i 0)=false):yo (bk rT T 0 p lim false):=by
 rw [Fi]
 split
 ·exact ⟨1,by decide,uf rfl rfl⟩
 ·exact ⟨1,by decide,wq (m:={m0 rT T 10 p lim with lastStart:=lim}) Hu rfl rfl rfl p ai UM⟩
theorem Qo (h: ∀i,i<T.size->Hj (T.getD i 0)=false):yo (bk ui T 0 0 T.size false):=⟨1,by decide,Fj h⟩
theorem Q5 (h: ∀i,i<T.size->vc (T.getD i 0)=false):yo (bk o8 T 0 0 T.size false):=⟨1,by decide,E6 h⟩
def rV (T:Array Nat) (s pc pos hd:Nat) (a:Option Bool) (seen:cv):M:=(⟨o8,T,T.size,s,T.size⟩:Q).R pc pos hd ai [(⟨o8,T,T.size,s,T.size⟩:Q).F .nextStart 15 s ai] 1 a seen
theorem S5 {seen:cv}:(rV T k 15 k k az seen).runFor 1=if k>=T.size then rV T k 15 k k (aa false) (seen.add 13) else
  cond (decide (T.getD k 0<256)&&(o8.getD (17+(1+T.getD k 0/32)) 0).testBit (T.getD k 0 % 32)) (rV T k 27 (k+1) k az ((seen.add 13).add 9)) (rV T k 15 k k (aa false) (((seen.add 13).add 9).add 0)):=by
 have e:ec o8 (T.getD k 0) 28 17 ai (seen.add 13)=if (decide (T.getD k 0<256)&&(o8.getD (17+(1+T.getD k 0/32)) 0).testBit (T.getD k 0 % 32))=ai then .ok (ai,(seen.add 13).add 9) else .ok (false,((seen.add 13).add 9).add 0):=rfl
 have h:(rV T k 15 k k az seen).runFor 1=if k>=T.size then rV T k 15 k k (aa false) (seen.add 13) else match ec o8 (T.getD k 0) 28 17 ai (seen.add 13) with
  |.error why=>M.stick (rV T k 15 k k az (seen.add 13)) why
  |.ok (false,s)=>rV T k 15 k k (aa false) s
  |.ok (ai,s)=>rV T k 27 (k+1) k az s:=by kernel_rfl
 rw [h,e]
 cases (decide (T.getD k 0<256)&&(o8.getD (17+(1+T.getD k 0/32)) 0).testBit (T.getD k 0 % 32))<;>rfl
theorem S8 {seen:cv}:(rV T k 27 (k+1) k az seen).runFor 2=(⟨o8,T,T.size,k,T.size⟩:Q).R 15 k (k+1) ai [] 0 (aa ai) (seen.add 1):=by kernel_rfl
theorem Sb (hc:vc c=ai):(decide (c<256)&&(o8.getD (17+(1+c/32)) 0).testBit (c % 32))=ai:=by
 have same: ∀k,k<8->o8.getD (17+(1+k)) 0=o8.getD (6+k) 0:=by decide
 unfold vc at hc
 have h2:c<256:=of_decide_eq_true (aP.mp hc).1
 rw [same _ (by exact (my (.i (.b xA (.c 256)) (.b (.d xA 32) (.c 8))) [_]) h2)]
 exact hc
theorem OZ (hk:k<T.size) (UM: ∀i,i<k->vc (T.getD i 0)=false) (hc:vc (T.getD k 0)=ai):un (bk o8 T 0 0 T.size false) k (k+1):=by
 rw [FP,if_neg (srch (cX (cx _) hk))]
 refine eE (BM (T:=T) (p:=0) (k:=k) (lim:=T.size) (code:=o8) (pc:=15) He rfl (cx _) hk (λi z=>UM i) hc) λs0 e=> ?_
 rw [e]
 exact y8 (N:=1+2) (by decide) (show (rV T k 15 k k az s0).runFor (1+2)=_ by rw [nN,S5,if_neg (l9.mpr hk),Sb hc,cond_true,S8])
end
namespace Pat
theorem plainAttrs:jC "re.Pattern":=
 ⟨⟨"object.__getattribute__",by rw [cz,bA];kernel_rfl,by decide+kernel⟩,by rw [cz,bA];kernel_rfl⟩
theorem slot_search:Slot "re.Pattern" "search" "re.Pattern.search":=
 .of (owner:="re.Pattern") (n:="search") (by rw [cz,bA];kernel_rfl) (by decide+kernel) (by decide+kernel) (by decide+kernel)
  (by first|exact .inl (by decide+kernel)|exact .inr (by decide+kernel)) (by rw [dZ];kernel_rfl)
theorem slot_sub:Slot "re.Pattern" "sub" "re.Pattern.sub":=
 .of (owner:="re.Pattern") (n:="sub") (by rw [cz,bA];kernel_rfl) (by decide+kernel) (by decide+kernel) (by decide+kernel)
  (by first|exact .inl (by decide+kernel)|exact .inr (by decide+kernel)) (by rw [dZ];kernel_rfl)
theorem type_search:kz (.builtin "re.Pattern.search")=bG (.type "method_descriptor"):=by show builtinType _=_;rw [builtinType_eq_fast];kernel_rfl
theorem type_sub:kz (.builtin "re.Pattern.sub")=bG (.type "method_descriptor"):=by show builtinType _=_;rw [builtinType_eq_fast];kernel_rfl
theorem entry_search:entryFor table "re.Pattern.search"=aa Builtin.«re.Pattern.search»:=ib (by kernel_rfl)
theorem entry_sub:entryFor table "re.Pattern.sub"=aa Builtin.«re.Pattern.sub»:=ib (by kernel_rfl)
theorem entry_loop:entryFor table "re.Pattern.sub.loop"=aa Builtin.«re.Pattern.sub.loop»:=ib (by kernel_rfl)
theorem args_search (a b:ay):argsOk "re.Pattern.search" ⟨[a,b],[]⟩:=by kernel_rfl
theorem args_sub (a b c:ay):argsOk "re.Pattern.sub" ⟨[a,b,c],[]⟩:=by kernel_rfl
end Pat
structure rk (h:aW) (a:aF) (code:Array Nat):Prop where
 at': ∃VE sl p f b t1 t2,h.get? a=aa ⟨.type "re.Pattern",VE,.fields #[p,f,.int 0 t1,.none,.none,.ref b,.int 0 t2],sl⟩/\ ∃ob vs n,h.get? b=aa ob/\ob.data= .seq vs n/\(vs.map reRawOf).map (·.toNat)=code
theorem rk.keep {code:Array Nat} (p:rk h a code) (k:mU h h'):rk h' a code:=by
 refine r4 p.at' λVE sl p f b t1 t2 e ob vs n e2 e3 e4=> ?_
 exact ⟨VE,sl,p,f,b,t1,t2,k _ _ e,ob,vs,n,k _ _ e2,e3,e4⟩
section
variable {prog:aH} {w:av} {A:aX} {X:List aF} {I:aW->Prop} {E:ay->aq->Prop}
theorem Az {code:Array Nat} {Q:ReTarget->aq->Prop} (p:rk s.heap a code) (q:Q ⟨.ref a,.str x t,code,x.cps,0,0,0,x.cps.size⟩ s):aC (aI prog w) A (reWholeTarget (.ref a) (.str x t)) Q E s:=by
 refine r4 p.at' λVE sl p f b t1 t2 e ob vs n e2 e3 e4=> ?_
 refine ae (wpAny_fieldsOf e rfl ?_)
 refine ae (bD (show reTextOf (.str x t)=bG (x.cps,0) from rfl) ?_)
 show aC _ _ (reRawItems (.ref b) >>= λr=>bG _) _ _ _
 refine ae (ae (dY e2 e3 (aj (aj ?_))))
 show Q ⟨_,_,(vs.map reRawOf).map (·.toNat),_,_,_,_,_⟩ _
 rw [e4]
 exact q
theorem CY {code:Array Nat} {Q:ReTarget->aq->Prop} (p:rk s.heap a code) (hx:x.cps.size<=100000) (q:Q ⟨.ref a,.str x t,code,x.cps,0,0,0,x.cps.size⟩ s):
  aC (aI prog w) A (reTarget "re.Pattern.search" "search" ⟨[.ref a,.str x t],[]⟩) Q E s:=by
 refine r4 p.at' λVE sl p f b t1 t2 e ob vs n e2 e3 e4=> ?_
 refine ae (bD (show reNamed "re.Pattern.search" "search" ["string","pos","endpos"] 1 [.str x t] []=bG [aa (.str x t),az,az] from rfl) ?_)
 refine ae (aj (ae (aj ?_)))
 refine ae (wpAny_fieldsOf e rfl ?_)
 refine ae (bD (show reTextOf (.str x t)=bG (x.cps,0) from rfl) ?_)
 show aC _ _ (reRawItems (.ref b) >>= λr=>bG _) _ _ _
 refine ae (ae (dY e2 e3 (aj (aj ?_))))
 show Q ⟨_,_,(vs.map reRawOf).map (·.toNat),_,_,_,min (0:Int).toNat x.cps.size,min (2^63 - 1:Int).toNat x.cps.size⟩ _
 rw [e4]
 have h1:min (0:Int).toNat x.cps.size=0:=by rfl
 have h2:min (2^63 - 1:Int).toNat x.cps.size=x.cps.size:=by
  have:(2^63 - 1:Int).toNat=9223372036854775807:=by decide
  exact (my (.i (.l xA (.c 100000)) (.e (.n (.t (.s xS xI)) xA) xA)) [_]) hx
 rw [h1,h2]
 exact q
theorem GE {Q:Option M->aq->Prop} (h:yo m) (q:Q az s):aC Mo A (reRunToEnd m) Q E s:=by
 obtain ⟨N,hN,e⟩:=h
 exact Eu (N:=N) (by omega) (by exact e▸q)
theorem El {Q:Option M->aq->Prop} (h:un m b e) (q: ∀m',m'.start=b->m'.handed=e->m'.marks= #[]->m'.lastmark= -1->m'.lastindex= -1->Q (aa m') s):aC Mo A (reRunToEnd m) Q E s:=by
 refine MH h λN hN e1 e2 e3 e4 e5 e6=> ?_
 exact Eu (N:=N) (by omega) (by exact e1▸(q _ e2 e3 e4 e5 e6))
theorem Ge {code:Array Nat} {Q:ay->aq->Prop} (p:rk s.heap a code) (hx:x.cps.size<=100000) (hT:s.TypeIs (.ref a) "re.Pattern") (h:yo (bk code x.cps 0 0 x.cps.size false)) (q:Q .none s):
  aC (aI prog w) A (ft (.builtin "re.Pattern.search") [.ref a,.str x t]) Q E s:=by
 refine dA Pat.slot_search hT Pat.entry_search ?_ (Pat.args_search _ _)
 unfold «re.Pattern.search»
 refine ae (CY p hx ?_)
 exact ae (GE h (aj ⟨_,rfl,q⟩))
theorem EB {code:Array Nat} {Q:ay->aq->Prop} (p:rk s.heap a code) (hx:x.cps.size<=100000) (hT:s.TypeIs (.ref a) "re.Pattern") (h:un (bk code x.cps 0 0 x.cps.size false) b e)
  (q: ∀s' c o,bB s s'->s'.heap.get? c=aa o->o.cls= .type "re.Match"->Q (.ref c) s'):
  aC (aI prog w) A (ft (.builtin "re.Pattern.search") [.ref a,.str x t]) Q E s:=by
 refine dA Pat.slot_search hT Pat.entry_search ?_ (Pat.args_search _ _)
 unfold «re.Pattern.search»
 refine ae (CY p hx ?_)
 refine ae (El h λm' e1 e2 e3 e4 e5=> ?_)
 refine ae ?_
 refine ae (eI ?_ (by show 2<=_;decide))
 refine eI ?_ (by show 6<=_;decide)
 exact aj ⟨_,rfl,q _ _ _ (mH (mZ s _ s.toks) (mZ {s with heap:=s.heap.push _} _ _)) (au _ rfl) rfl⟩
end
inductive uC (code:Array Nat) (repl T:List Nat):Nat->List Nat->Prop
 |done (p:Nat):p<=T.length->yo (bk code T.toArray 0 p T.length false)->uC code repl T p (T.drop p)
 |step (p b e:Nat) (r:List Nat):p<=b->b<e->e<=T.length->un (bk code T.toArray 0 p T.length false) b e->uC code repl T e r->uC code repl T p ((T.drop p).take (b - p)++repl++r)
theorem F1 (T:List Nat) (a b:Nat):(⟨T.toArray.extract a b⟩:Str)=S ((T.drop a).take (b - a)):=by
 simp [List.extract_toArray,List.extract_eq_drop_take]
theorem Ia: ∀xs:List (List Nat),Txt.join (S []) (xs.map S)=S xs.flatten:=by
 intro xs
 show j9 _ _=_
 rw [j8]
 induction xs with
 |nil=>rfl
 |cons x xs ih=>
  cases xs with
  |nil=>simp [jm]
  |cons y ys=>
   show S x++S []++jm (S []) (S y::ys.map S)=_
   have:jm (S []) (S y::ys.map S)=S (y::ys).flatten:=ih
   rw [this,uW,uW];simp
theorem ua {ys:List (List Nat)} (h:ys.flatten.length+ys.length*Vc.length<=1000000):JoinOk (S Vc) (ys.map S)=ai:=by
 unfold JoinOk
 rw [StrLaws.joinTotal]
 have e:((ys.map S).map (·.length)).sum=ys.flatten.length:=by
  rw [aB,List.length_flatten]
  congr 1
 rw [e,ah,mW]
 have:=aw
 generalize ys.flatten.length=N at*
 generalize ys.length*Vc.length=K at*
 simp [Str.tooLong]
 exact (my (.i (.e xC xL) (.i (.l (.a xA xB) (.c 1000000)) (.l (.a xA xB) xC))) [_,_,_]) this h
section
variable {prog:aH} {w:av} {A:aX} {X:List aF} {I:aW->Prop}
theorem EW {Q:Unit->aq->Prop} (pl:s.heap.PlainList D vs.toArray) (hz:vs.length<=100000)
  (q: ∀h',h'.PlainList D (vs++[y]).toArray->cL D s.heap h'->Q () {s with heap:=h'}):aC (aI prog w) A (updateSeq D (·.push y)) Q E s:=by
 obtain ⟨n,ho⟩:=pl
 have:=aw
 refine fg ho rfl (hz:=by simp;exact (my (.i (.l xA (.c 100000)) (.i (.e xB xL) (.l xA xB))) [_,_]) hz this) (_hz':=by simp;exact (my (.i (.l xA (.c 100000)) (.i (.e xB xL) (.l xA xB))) [_,_]) hz this) (q _ ⟨n+1,?_⟩ (ef ..))
 rw [cr _ ho (by rw [fF];rfl),fF]
 simp
theorem Jl {T:List Nat} {Q:ay->aq->Prop} (hT:T.length<=1000) (q:Q (.str (S ((T.drop a).take (b - a))) s.toks) {s with toks:=s.toks+1}):aC (aI prog w) A (mkStr ⟨T.toArray.extract a b⟩) Q E s:=by
 rw [F1]
 refine ge q ?_
 have:=aw
 rw [mW,dm,bH];exact (my (.i (.l xC xQ) (.i (.e xD xL) (.l (.n (.s xA xB) (.s xC xB)) xD))) [_,_,_,_]) hT this
theorem vz:plainId "re.Pattern.sub.loop"=ai:=by decide+kernel
theorem LB {code:Array Nat} (hT:T.length<=1000) (hr:repl.length<=10): ∀(p:Nat) (r:List Nat),uC code repl T p r->
  ∀(s:aq) (n:Nat) (xs:List (List Nat)) (l:List (Str×Tok)),n<=p->rk s.heap a code->a≠D->(∀VE sl p f b t1 t2,s.heap.get? a=aa ⟨.type "re.Pattern",VE,.fields #[p,f,.int 0 t1,.none,.none,.ref b,.int 0 t2],sl⟩->b≠D)->s.heap.PlainList D (c8 l).toArray->l.map (·.1)=xs.map S->xs.length<=2*n->(xs.flatten).length<=20*p->
   (∀s' tk,nB s s'->(∀b o,b≠D->s.heap.get? b=aa o->s'.heap.get? b=aa o)->R (.ok (.ret (.str (S (xs.flatten++r)) tk))) s')->
   gw (aI prog w) A (.builtin "re.Pattern.sub.loop" ⟨[.ref a,.str (S T) t,.str (S repl) tr,eQ 0,eQ 0,eQ n,eQ p,eQ p,.bool false,.ref D,.bool false],[]⟩) R s:=by
 have hsz:(S T).cps.size=T.length:=by rfl
 intro p r hs
 induction hs with
 |done p hp WF=>
  intro s n xs l hn pa na nb pl hl U6 WR q
  refine gp Pat.entry_loop ?_
  rw [fG vz _]
  unfold «re.Pattern.sub.loop»
  refine ae (Az pa (bT rfl ?_))
  refine ae (bD (show reLiteralCannotBeTurned (.str (S repl) tr)=bG () from rfl) (ae (bZ rfl (GE WF ?_))))
  have tail: ∀(T0:aq) (UY:List (Str×Tok)) (ys:List (List Nat)),nB s T0->(∀b o,b≠D->s.heap.get? b=aa o->T0.heap.get? b=aa o)->T0.heap.PlainList D (c8 UY).toArray->UY.map (·.1)=ys.map S->ys.length<=2*n+1->ys.flatten=xs.flatten++T.drop p->
    aC (aI prog w) A.in1 (do
     let Wb <-reSlice (S T).cps 0 0 0
     let VW <-seqItems? (jo D)
     if (VW.getD #[]).isEmpty=ai then ret Wb
     else do
      let text <-ft (ay.builtin (if (0==0)=ai then "str.join" else "bytes.join")) [Wb,jo D]
      ret text) (λqt s'=>match qt with|.done f=>R (.ok f) s'|.again c'=>c'.quiet=ai/\gw (aI prog w) A c' R s') (λe s'=>R (.error e) s') T0:=by
   intro T0 UY ys ex T2 pl1 Vz hy Vt
   refine ae (ge ?_ (by simp [fJ]))
   refine eE pl1 λWL VV=> ?_
   have e₁':({T0 with toks:=T0.toks+1}:aq).heap.get? D=aa {cls:=.type "list",data:=.seq (c8 UY).toArray WL}:=VV
   refine ae (dY e₁' rfl ?_)
   have ej:(⟨(S T).cps.extract 0 0⟩:Str)=S []:=by simp
   rw [ej]
   by_cases h0:((aa (c8 UY).toArray).getD #[]).isEmpty=ai
   ·refine bT (decide_eq_true h0) ?_
    have:UY=[]:=by
     cases UY with
     |nil=>rfl
     |cons q r=>simp [c8] at h0
    subst this
    have hys:ys=[]:=by cases ys with|nil=>rfl|cons _ _=>simp at Vz
    subst hys
    refine aj ?_
    have:=q {T0 with toks:=T0.toks+1} T0.toks (ex.trans ⟨_,_,rfl⟩) T2
    rw [<-Vt] at this
    exact this
   ·refine bZ (decide_eq_false h0) (ae ?_)
    have hjoin:Txt.join (S []) (ys.map S)=S (xs.flatten++T.drop p):=by rw [Ia,Vt]
    have Xg:({T0 with toks:=T0.toks+1}:aq).heap.IsList D (c8 UY).toArray:=⟨_,VV,rfl,_,rfl⟩
    refine SC.join Xg Vz (ua (by rw [Vt,af,bH,bQ,Nat.mul_zero];exact (my (.i (.l xB xQ) (.i (.l xC xB) (.i (.l xA (.m 20 xC)) (.l (.a (.a xA (.s xB xC)) xJ) (.c 1000000))))) [_,_,_]) hT hp WR)) λt' k=> ?_
    refine aj ?_
    rw [hjoin]
    exact q _ _ (ex.trans ⟨_,_,rfl⟩) T2
  by_cases Un:p<T.length
  ·refine bT (decide_eq_true Un) ?_
   refine ae (Jl (T:=T) (a:=p) (b:=T.length) hT ?_)
   refine ae (EW (s:={s with toks:=s.toks+1}) pl (by have:=congrArg bj hl;simp [c8] at this ⊢;exact (my (.i (.l xB xQ) (.i (.l xC xD) (.i (.l xE (.m 2 xC)) (.i (.b xD xB) (.i (.e xA xE) (.l xA (.c 100000))))))) [_,_,_,_,_]) hT hn U6 Un this) λh' VG sb=> ?_)
   refine tail _ (l++[(S ((T.drop p).take (T.length - p)),s.toks)]) (xs++[T.drop p]) ⟨h',_,rfl⟩ (λb o nb e=>(sb.2 b nb).trans e) (by simpa [c8] using VG) ?_ (by simp;omega) (by simp)
   have:(T.drop p).take (T.length - p)=T.drop p:=bF (by simp)
   rw [this]
   simp [hl]
  ·refine bZ (decide_eq_false Un) ?_
   exact tail _ l xs (nB.rfl' s) (λy y y e=>e) pl hl (by exact (my (.i (.l xA (.m 2 xB)) (.l xA (.a (.m 2 xB) xI))) [_,_]) U6) (by rw [fj (by exact (my (.i (.n (.b xB xA)) (.l xA xB)) [_,_]) Un)];simp)
 |step p b e r hpb hbe he Wr sub ih=>
  intro s n xs l hn pa na nb pl hl U6 WR q
  refine gp Pat.entry_loop ?_
  rw [fG vz _]
  unfold «re.Pattern.sub.loop»
  refine ae (Az pa (bT rfl ?_))
  refine ae (bD (show reLiteralCannotBeTurned (.str (S repl) tr)=bG () from rfl) (ae (bZ rfl (El Wr λm' e1 e2 e3 e4 e5=> ?_))))
  obtain rfl:=e1
  obtain rfl:=e2
  have Uk:(m'.handed==m'.start)=false:=beq_eq_false_iff_ne.mpr (by exact (my (.i (.b xB xA) (.n (.e xA xB))) [_,_]) hbe)
  have Ue:l.length=xs.length:=by have:=congrArg bj hl;simpa using this
  have qt: ∀(T0:aq) (UY:List (Str×Tok)) (ys:List (List Nat)),nB s T0->(∀b o,b≠D->s.heap.get? b=aa o->T0.heap.get? b=aa o)->T0.heap.PlainList D (c8 UY).toArray->UY.map (·.1)=ys.map S->ys.length<=2*n+1->ys.flatten=xs.flatten++(T.drop p).take (m'.start - p)->
    aC (aI prog w) A.in1 (do
     updateSeq D λx=>x.push (ay.str (S repl) tr)
     again (.builtin "re.Pattern.sub.loop" ⟨[.ref a,.str (S T) t,.str (S repl) tr,.int 0 0,.int 0 0,.int ((n:Int)+1) 0,.int (m'.handed:Int) 0,.int (m'.handed:Int) 0,.bool (m'.handed==m'.start),.ref D,.bool false],[]⟩))
     (λqt s'=>match qt with|.done f=>R (.ok f) s'|.again c'=>c'.quiet=ai/\gw (aI prog w) A c' R s') (λe s'=>R (.error e) s') T0:=by
   intro T0 UY ys ex T2 pl1 Vz hy Vt
   have WH:UY.length=ys.length:=by have:=congrArg bj Vz;simpa using this
   refine ae (EW pl1 (by simp [c8];exact (my (.i (.l xB xQ) (.i (.l xC xD) (.i (.l xD xE) (.i (.l xF xB) (.i (.b xE xF) (.i (.l xG (.a (.m 2 xC) xI)) (.i (.e xA xG) (.l xA (.c 100000))))))))) [_,_,_,_,_,_,_]) hT hn hpb he hbe hy WH) λh' VG sb=> ?_)
   refine aj ⟨ju vz _,?_⟩
   have kk: ∀b o,b≠D->s.heap.get? b=aa o->h'.get? b=aa o:=λb o nb e=>(sb.2 b nb).trans (T2 b o nb e)
   refine r4 pa.at' λVE sl pp f bb t1 t2 z1 ob vs nn z2 z3 z4=> ?_
   have pa':rk h' a code:=⟨VE,sl,pp,f,bb,t1,t2,kk _ _ na z1,ob,vs,nn,kk _ _ (nb _ _ _ _ _ _ _ z1) z2,z3,z4⟩
   have:=ih {T0 with heap:=h'} (n+1) (ys++[repl]) (UY++[(S repl,tr)]) (by exact (my (.i (.l xA xC) (.i (.l xC xD) (.i (.b xD xB) (.l (.a xA xI) xB)))) [_,_,_,_]) hn hpb hbe) pa' na (λVE sl p f b t1 t2 z=>by
    have z':=kk _ _ na z1
    have z:h'.get? a=_:=z
    rw [z'] at z
    cases z
    exact nb _ _ _ _ _ _ _ z1) (by simpa [c8] using VG) (by simp [Vz]) (by simp;exact (my (.i (.l xA (.a (.m 2 xB) xI)) (.l (.a xA xI) (.m 2 (.a xB xI)))) [_,_]) hy) (by
     have h1:((T.drop p).take (m'.start - p)).length<=m'.start - p:=iH ..
     rw [eO,Vt]
     simp only [af,cu,List.flatten_nil,bK]
     exact (my (.i (.l xC (.c 10)) (.i (.l xA (.m 20 xE)) (.i (.l xE xF) (.i (.b xF xD) (.i (.l xB (.s xF xE)) (.l (.a (.a xA xB) xC) (.m 20 xD))))))) [_,_,_,_,_,_]) hr WR hpb hbe h1) (λs' tk ex' k'=>by
     have:=q s' tk (ex.trans (nB.trans ⟨h',T0.toks,rfl⟩ ex')) (λb o nb e=>k' b o nb (kk b o nb e))
     rw [eO,Vt]
     simpa using this)
   rw [Uk,show ((n:Int)+1)=((n+1:Nat):Int) by push_cast;rfl]
   exact this
  by_cases Un:p<m'.start
  ·refine bT (decide_eq_true Un) (ae (Jl (T:=T) (a:=p) (b:=m'.start) hT ?_))
   refine ae (EW (s:={s with toks:=s.toks+1}) pl (by simp [c8];exact (my (.i (.l xB xQ) (.i (.l xC xD) (.i (.l xE (.m 2 xC)) (.i (.l xF xB) (.i (.b xG xF) (.i (.e xA xE) (.i (.b xD xG) (.l xA (.c 100000))))))))) [_,_,_,_,_,_,_]) hT hn U6 he hbe Ue Un) λh' VG sb=> ?_)
   refine bT rfl (ae (aj (bT rfl ?_)))
   refine qt _ (l++[(S ((T.drop p).take (m'.start - p)),s.toks)]) (xs++[(T.drop p).take (m'.start - p)]) ⟨h',_,rfl⟩ (λb o nb e=>(sb.2 b nb).trans e) (by simpa [c8] using VG) (by simp [hl]) (by simp;omega) (by simp)
  ·refine bZ (decide_eq_false Un) (bT rfl (ae (aj (bT rfl ?_))))
   have hb:m'.start - p=0:=by exact (my (.i (.n (.b xB xA)) (.e (.s xA xB) xJ)) [_,_]) Un
   refine qt _ l xs (nB.rfl' s) (λz z z e=>e) pl hl (by exact (my (.i (.l xA (.m 2 xB)) (.l xA (.a (.m 2 xB) xI))) [_,_]) U6) (by rw [hb];simp)
theorem GM {code:Array Nat} (hI: ∀h,I h->rk h a code) (hT:T.length<=1000) (hr:repl.length<=10) (hb:repl.contains 92=false) (hs:uC code repl T 0 r):
  pV prog w A X I (.builtin "re.Pattern.sub") [.raw (.ref a),.str (S repl),.str (S T)] (.str (S r)):=λs vs i lx rr=>by
 refine rZ (zS rr) λv u z T1 r1 r2 r3=> ?_;obtain rfl:=T1
 subst r1
 refine eE (nt r2) λtr T1=> ?_;obtain rfl:=T1
 refine eE (nt r3) λt T1=> ?_;obtain rfl:=T1
 have pa:=hI _ i
 refine r4 (id pa.at') λVE sl pp f bb t1 t2 z1 ob vs nn z2 z3 z4=> ?_
 refine eo (i9 Pat.slot_sub.plain Pat.entry_sub (Pat.slot_sub.check _ _ _ _ _ _ _ _ ⟨_,z1,rfl⟩ (Pat.args_sub _ _ _) ?_))
 unfold «re.Pattern.sub» reSubstitute
 refine ae (bD (show reNamed "re.Pattern.sub" "sub" ["repl","string","count"] 2 [.str (S repl) tr,.str (S T) t] []=bG [aa (.str (S repl) tr),aa (.str (S T) t),az] from rfl) ?_)
 refine ae (aj ?_)
 refine ae (bD (show specialOf (.str (S repl) tr) "__call__"=bG az from by
  show fu (.type "str") "__call__"=bG az
  rw [cz,bA];kernel_rfl) ?_)
 refine bZ rfl ?_
 refine ae (bD (show asStr? (.str (S repl) tr)=bG (aa (S repl)) from rfl) ?_)
 refine ae (aj ?_)
 refine bZ rfl ?_
 have hlit:(!(S repl).cps.contains 92)=ai:=by
  have:(S repl).cps.contains 92=repl.contains 92:=by simp [S]
  rw [this,hb];rfl
 refine bT (decide_eq_true hlit) ?_
 refine ae (aj ?_)
 refine ae (bL (Az pa ?_))
 refine bZ rfl ?_
 refine ae (wpAny_newList ?_ (by decide))
 refine aj ⟨ju vz _,?_⟩
 have k:=mZ s {cls:=.type "list",data:=.seq ([]:List ay).toArray} s.toks
 have hD:s.heap.get? s.heap.objs.size=az:=nF _
 have ne: ∀{b:aF} {o:Obj},s.heap.get? b=aa o->b≠s.heap.objs.size:=λe q=>by rw [q,hD] at e;exact nE e
 refine LB (D:=s.heap.objs.size) hT hr 0 r hs {s with heap:=s.heap.push {cls:=.type "list",data:=.seq ([]:List ay).toArray}} 0 [] [] (aN _) (pa.keep (mG k)) (ne z1) (λdct' sl' p' f' b' t1' t2' z=> ?_) ⟨_,au _ rfl⟩ rfl (by simp) (by simp) λs' tk ex k'=> ?_
 ·have z':=mG k _ _ z1
  have z:(s.heap.push {cls:=.type "list",data:=.seq ([]:List ay).toArray}).get? a=_:=z
  rw [z'] at z
  cases z
  exact ne z2
 ·refine rN ex ?_;clear ex;intro h' t' T1;obtain rfl:=T1
  exact ⟨⟨h',t',rfl,λb o e=>k' b o (ne e) (mG k _ _ e)⟩,by simpa using oh⟩
end
noncomputable def pe:List Nat->List Nat
 |[]=>[]
 |c::r=>match r with
  |d::r'=>if c=13 then (if d=10 then 13::10::pe r' else 13::10::pe (d::r')) else if c=10 then 13::10::pe (d::r') else c::pe (d::r')
  |[]=>if c=13\/c=10 then [13,10] else [c]
theorem IH (h:wy c=false) (r:List Nat):pe (c::r)=c::pe r:=by
 have h1:c≠13:=by rintro rfl;exact ro h
 have h2:c≠10:=by rintro rfl;exact ro h
 cases r with
 |nil=>simp [pe,h1,h2]
 |cons d r=>rw [pe];simp [h1,h2]
theorem xr: ∀(Uy r:List Nat),(∀c∈Uy,wy c=false)->pe (Uy++r)=Uy++pe r
 |[],r,_=>rfl
 |c::Uy,r,h=>by
  rw [bx,IH (h c (.head _)),xr Uy r λd hd=>h d (.tail _ hd)];rfl
theorem Hn (r:List Nat):pe (10::r)=13::10::pe r:=by
 cases r with
 |nil=>simp [pe]
 |cons d r=>rw [pe];rfl
theorem De (r:List Nat):pe (13::10::r)=13::10::pe r:=by rw [pe];rfl
theorem Hr (h:r.head?≠aa 10):pe (13::r)=13::10::pe r:=by
 cases r with
 |nil=>simp [pe]
 |cons d r=>
  have:d≠10:=by simpa using h
  rw [pe];simp [this]
theorem AA (f:Nat->Bool) (n:Nat): ∀(m p:Nat),n - p=m->p<=n->(∀i,p<=i->i<n->f i=false)\/ ∃k,p<=k/\k<n/\f k=ai/\ ∀i,p<=i->i<k->f i=false
 |0,p,h,hp=>.inl λi h1 h2=>by exact ((my (.i (.e (.s xA xB) xJ) (.i (.l xB xC) (.n (.b xC xA)))) [_,_,_]) h h1 h2).elim
 |m+1,p,h,hp=>by
  cases hf:f p with
  |true=>exact .inr ⟨p,aN _,by exact (my (.i (.e (.s xB xA) (.a xC xI)) (.b xA xB)) [_,_,_]) h,hf,λi h1 h2=>by exact ((my (.i (.l xA xB) (.n (.b xB xA))) [_,_]) h1 h2).elim⟩
  |false=>
   rcases AA f n m (p+1) (by exact (my (.i (.e (.s xA xB) (.a xC xI)) (.e (.s xA (.a xB xI)) xC)) [_,_,_]) h) (by exact (my (.i (.e (.s xB xA) (.a xC xI)) (.l (.a xA xI) xB)) [_,_,_]) h) with q|⟨k,q1,q2,q3,q4⟩
   ·exact .inl λi h1 h2=>by
     by_cases e:i=p
     ·exact e▸hf
     ·exact q i (by exact (my (.i (.l xA xB) (.i (.n (.e xB xA)) (.l (.a xA xI) xB))) [_,_]) h1 e) h2
   ·exact .inr ⟨k,by exact (my (.i (.l (.a xA xI) xB) (.l xA xB)) [_,_]) q1,q2,q3,λi h1 h2=>by
     by_cases e:i=p
     ·exact e▸hf
     ·exact q4 i (by exact (my (.i (.l xA xB) (.i (.n (.e xB xA)) (.l (.a xA xI) xB))) [_,_]) h1 e) h2⟩
theorem pO (T:List Nat) (i:Nat):T.toArray.getD i 0=T.getD i 0:=by simp [aZ]
theorem DF {T:List Nat} (h:c∈(T.drop p).take (k - p)): ∃i,p<=i/\i<k/\i<T.length/\T.getD i 0=c:=by
 obtain ⟨j,hj,e⟩:=lF h
 rw [dm,bH] at hj
 refine ⟨p+j,by exact my (.l xA (.a xA xB)) [_,_],by exact (my (.i (.b xB (.n (.s xC xA) (.s xD xA))) (.b (.a xA xB) xC)) [_,_,_,_]) hj,by exact (my (.i (.b xB (.n (.s xD xA) (.s xC xA))) (.b (.a xA xB) xC)) [_,_,_,_]) hj,?_⟩
 rw [<-e,List.getElem_take,jh,aZ,aA (by exact (my (.i (.b xB (.n (.s xD xA) (.s xC xA))) (.b (.a xA xB) xC)) [_,_,_,_]) hj)];rfl
theorem K6 {T:List Nat} (h:c∈T.drop p): ∃i,p<=i/\i<T.length/\T.getD i 0=c:=by
 obtain ⟨j,hj,e⟩:=lF h
 rw [bH] at hj
 refine ⟨p+j,by exact my (.l xA (.a xA xB)) [_,_],by exact (my (.i (.b xB (.s xC xA)) (.b (.a xA xB) xC)) [_,_,_]) hj,?_⟩
 rw [<-e,jh,aZ,aA (by exact (my (.i (.b xB (.s xC xA)) (.b (.a xA xB) xC)) [_,_,_]) hj)];rfl
theorem w8 {T:List Nat} (h:k<T.length):T.drop k=T.getD k 0::T.drop (k+1):=by
 rw [gv h,aZ,aA h];rfl
theorem HI {T:List Nat} (h:p<=k):T.drop p=(T.drop p).take (k - p)++T.drop k:=by
 conv=>lhs;rw [<-kR (k - p) (T.drop p)]
 rw [List.drop_drop,show p+(k - p)=k by exact (my (.i (.l xA xB) (.e (.a xA (.s xB xA)) xB)) [_,_]) h]
theorem PU (T:List Nat): ∀(m p:Nat),T.length - p<=m->p<=T.length->uC rT [13,10] T p (pe (T.drop p)):=by
 intro m
 induction m with
 |zero=>
  intro p hm hp
  have:p=T.length:=by exact (my (.i (.l (.s xB xA) xJ) (.i (.l xA xB) (.e xA xB))) [_,_]) hm hp
  subst this
  have:=uC.done (code:=rT) (repl:=[13,10]) (T:=T) T.length (aN _) (J7 λi h1 h2=>by exact ((my (.i (.l xA xB) (.n (.b xB xA))) [_,_]) h1 h2).elim)
  rw [jx] at this ⊢
  exact this
 |succ m ih=>
  intro p hm hp
  rcases AA (λi=>wy (T.getD i 0)) T.length _ p rfl hp with q|⟨k,q1,q2,q3,q4⟩
  ·have e:pe (T.drop p)=T.drop p:=by
    have:=xr (T.drop p) [] λc hc=>by obtain ⟨i,h1,h2,rfl⟩:=K6 hc;exact q i h1 h2
    simpa [pe] using this
   rw [e]
   exact .done p hp (J7 λi h1 h2=>by rw [pO];exact q i h1 h2)
  ·have UM: ∀i,p<=i->i<k->wy (T.toArray.getD i 0)=false:=λi h1 h2=>by rw [pO];exact q4 i h1 h2
   have Wi:pe (T.drop p)=(T.drop p).take (k - p)++pe (T.drop k):=by
    conv=>lhs;rw [HI q1]
    exact xr _ _ λc hc=>by obtain ⟨i,h1,h2,_,rfl⟩:=DF hc;exact q4 i h1 h2
   rw [Wi,w8 q2]
   have h2:T.getD k 0=10\/T.getD k 0=13:=by simpa [wy] using q3
   rcases h2 with h2|h2
   ·rw [h2,Hn]
    have:=uC.step p k (k+1) _ q1 (by exact my (.b xA (.a xA xI)) [_]) (by exact (my (.i (.b xA xB) (.l (.a xA xI) xB)) [_,_]) q2) (IZ (T:=T.toArray) q1 q2 UM (by rw [pO];exact h2)) (ih (k+1) (by exact (my (.i (.l (.s xA xD) (.a xC xI)) (.i (.l xD xB) (.l (.s xA (.a xB xI)) xC))) [_,_,_,_]) hm q1) (by exact (my (.i (.b xA xB) (.l (.a xA xI) xB)) [_,_]) q2))
    simpa using this
   ·rw [h2]
    by_cases hn:k+1<T.length/\T.getD (k+1) 0=10
    ·rw [w8 hn.1,hn.2,De]
     have:=uC.step p k (k+2) _ q1 (by exact my (.b xA (.a xA xM)) [_]) (by exact (my (.i (.b (.a xA xI) xB) (.l (.a xA xM) xB)) [_,_]) hn.1) (E3 (T:=T.toArray) q1 hn.1 UM (by rw [pO];exact h2) (by rw [pO];exact hn.2)) (ih (k+2) (by exact (my (.i (.l (.s xA xD) (.a xC xI)) (.i (.l xD xB) (.l (.s xA (.a xB xM)) xC))) [_,_,_,_]) hm q1) (by exact (my (.i (.b (.a xA xI) xB) (.l (.a xA xM) xB)) [_,_]) hn.1))
     simpa using this
    ·rw [Hr (by
      by_cases hk:k+1<T.length
      ·rw [w8 hk];simpa using λe=>hn ⟨hk,e⟩
      ·rw [fj (by exact (my (.i (.n (.b (.a xB xI) xA)) (.l xA (.a xB xI))) [_,_]) hk)];decide)]
     have:=uC.step p k (k+1) _ q1 (by exact my (.b xA (.a xA xI)) [_]) (by exact (my (.i (.b xA xB) (.l (.a xA xI) xB)) [_,_]) q2) (HO (T:=T.toArray) q1 q2 UM (by rw [pO];exact h2) (λhk e=>hn ⟨hk,by rw [pO] at e;exact e⟩)) (ih (k+1) (by exact (my (.i (.l (.s xA xD) (.a xC xI)) (.i (.l xD xB) (.l (.s xA (.a xB xI)) xC))) [_,_,_,_]) hm q1) (by exact (my (.i (.b xA xB) (.l (.a xA xI) xB)) [_,_]) q2))
     simpa using this
noncomputable def dots:Bool->List Nat->List Nat
 |_,[]=>[]
 |b,c::r=>if b=ai/\c=46 then 46::46::dots false r else c::dots (c==10) r
noncomputable def wO (T:List Nat) (p:Nat):Bool:=p==0||T.getD (p - 1) 0==10
theorem EE (T:List Nat) (p:Nat):wP T.toArray p=wO T p:=by unfold wP wO;rw [pO]
theorem AB (T:List Nat): ∀(n p k:Nat),k - p=n->p<=k->k<=T.length->(∀i,p<=i->i<k-> ¬(wO T i=ai/\T.getD i 0=46))->dots (wO T p) (T.drop p)=(T.drop p).take (k - p)++dots (wO T k) (T.drop k)
 |0,p,k,e,hp,hk,_=>by
  have:k=p:=by exact (my (.i (.e (.s xA xB) xJ) (.i (.l xB xA) (.e xA xB))) [_,_]) e hp
  subst this;simp
 |n+1,p,k,e,hp,hk,h=>by
  have Un:p<T.length:=by exact (my (.i (.e (.s xC xA) (.a xD xI)) (.i (.l xC xB) (.b xA xB))) [_,_,_,_]) e hk
  have ih:=AB T n (p+1) k (by exact (my (.i (.e (.s xA xB) (.a xC xI)) (.e (.s xA (.a xB xI)) xC)) [_,_,_]) e) (by exact (my (.i (.e (.s xB xA) (.a xC xI)) (.l (.a xA xI) xB)) [_,_,_]) e) hk λi h1 h2=>h i (by exact (my (.i (.l (.a xA xI) xB) (.l xA xB)) [_,_]) h1) h2
  have UN:wO T (p+1)=(T.getD p 0==10):=by unfold wO;rfl
  rw [w8 Un,dots,if_neg (h p (aN _) (by exact (my (.i (.e (.s xB xA) (.a xC xI)) (.b xA xB)) [_,_,_]) e)),<-UN,ih,show k - p=(k - (p+1))+1 by exact (my (.i (.e (.s xA xB) (.a xC xI)) (.e (.s xA xB) (.a (.s xA (.a xB xI)) xI))) [_,_,_]) e,eN];rfl
theorem Qu (T:List Nat) (hT:T.length<=1000): ∀(m p:Nat),T.length - p<=m->p<=T.length->uC wL [46,46] T p (dots (wO T p) (T.drop p)):=by
 intro m
 induction m with
 |zero=>
  intro p hm hp
  have:p=T.length:=by exact (my (.i (.l (.s xB xA) xJ) (.i (.l xA xB) (.e xA xB))) [_,_]) hm hp
  subst this
  have:=uC.done (code:=wL) (repl:=[46,46]) (T:=T) T.length (aN _) (BL hT λi h1 h2=>by exact ((my (.i (.l xA xB) (.n (.b xB xA))) [_,_]) h1 h2).elim)
  rw [jx] at this ⊢
  exact this
 |succ m ih=>
  intro p hm hp
  rcases AA (λi=>wO T i&&T.getD i 0==46) T.length _ p rfl hp with q|⟨k,q1,q2,q3,q4⟩
  ·have e:dots (wO T p) (T.drop p)=T.drop p:=by
    rw [AB T _ p T.length rfl hp (aN _) λi h1 h2 z=>by have:=q i h1 h2;rw [z.1,z.2] at this;exact ro this]
    rw [jx,bF (by simp)];simp [dots]
   rw [e]
   exact .done p hp (BL hT λi h1 h2 ha hc=>by rw [EE] at ha;rw [pO] at hc;have:=q i h1 h2;rw [ha,hc] at this;exact ro this)
  ·obtain ⟨ha,hc⟩:wO T k=ai/\T.getD k 0=46:=⟨(aP.mp q3).1,beq_iff_eq.mp (aP.mp q3).2⟩
   have UM: ∀i,p<=i->i<k-> ¬(wO T i=ai/\T.getD i 0=46):=λi h1 h2 z=>by have:=q4 i h1 h2;rw [z.1,z.2] at this;exact ro this
   rw [AB T _ p k rfl q1 (by exact (my (.i (.b xA xB) (.l xA xB)) [_,_]) q2) UM,w8 q2,dots,if_pos ⟨ha,hc⟩]
   have UN:wO T (k+1)=false:=by unfold wO;rw [jb,hc];rfl
   have:=uC.step p k (k+1) _ q1 (by exact my (.b xA (.a xA xI)) [_]) (by exact (my (.i (.b xA xB) (.l (.a xA xI) xB)) [_,_]) q2) (Pr (T:=T.toArray) (lim:=T.length) hT q1 q2 (λi h1 h2 ha hc=>UM i h1 h2 ⟨by rw [<-EE];exact ha,by rw [<-pO];exact hc⟩) (by rw [EE];exact ha) (by rw [pO];exact hc)) (ih (k+1) (by exact (my (.i (.l (.s xA xD) (.a xC xI)) (.i (.l xD xB) (.l (.s xA (.a xB xI)) xC))) [_,_,_,_]) hm q1) (by exact (my (.i (.b xA xB) (.l (.a xA xI) xB)) [_,_]) q2))
   rw [UN] at this
   simpa using this
end
section
open PySem.Calls PyProof.Rows
section
variable {prog:aH} {w:av} {c:Sc} {σ:mX} {Λ:List (aF×List PV)}
theorem K3 {T id:String} (ho:Ev prog w (fs c σ Λ) o p)
  (hK: ∀(s:aq) v,In c σ Λ s.heap->mP c.X s.heap p v->s.TypeIs v T/\ ∀a,v= .ref a-> ∃ob,s.heap.get? a=aa ob/\ob.dict=az) (pa:jC T) (slot:Slot T name id)
  (VA:kz (.builtin id)=bG (.type "method_descriptor")) (ha:tG prog w (fs c σ Λ) pos (e::es) ps) (hc:pV prog w c.A c.X (In c σ Λ) (.builtin id) (p::ps) q)
  (Uq:autoParam (db o name c.env (bJ o c.env)=bJ o c.env) XZ)
  (U1:autoParam (((fb pos (aE (e::es) c.env)).all (λx=> !x.1)&&(cM pos (bR [] c.env)).all (λx=>x.1.isSome)
   &&decide ((e::es).length+([]:List eW).length+(if ([]:List eW).isEmpty then 0 else 1)<30))=ai) XZ)
  (Uv:autoParam ((apos.endLine==pos.line)=ai) XZ) (he:autoParam (aE (e::es) c.env=(false,bJ e c.env)::aE es c.env) XZ):
  Ev prog w (fs c σ Λ) (.Call (.Attribute o name apos) (e::es) [] pos) q:=.mk λs i=>
 dN Uq U1 Uv pa slot VA (ab (ho.run s i) (λov T0 uu=>eA uu λT2 T5=>⟨(hK _ _ (i.mono (mG T2)) T5).1,(hK _ _ (i.mono (mG T2)) T5).2,nI (qp (ab (ha.run T0 (i.mono (mG T2))) (λvs T3 uu=>eA uu λT4 Uh=>by
  have T7:=i.mono (mG (mH T2 T4))
  exact ⟨rj,ab (hc T3 (ov::vs) T7 T7.liveAll (mK.cons (T5.keep (mG T4)) Uh)) (λz z uu=>eA uu λUc Uj=>⟨mH T2 (mH T4 Uc),Uj⟩) λz z e=>e⟩) λz z e=>e) he)⟩) λz z e=>e)
theorem ym (G:Gd w n c) {T id:String} (ho:Ev prog w (fs c σ Λ) o (.raw (.ref a)))
  (hl:(KB w.params).lookup a=aa ob) (hT:ob.cls= .type T) (hd:ob.dict=az) (pa:jC T) (slot:Slot T name id)
  (VA:kz (.builtin id)=bG (.type "method_descriptor")) (ha:tG prog w (fs c σ Λ) pos (e::es) ps) (hc:pV prog w c.A c.X (In c σ Λ) (.builtin id) (.raw (.ref a)::ps) q)
  (Uq:autoParam (db o name c.env (bJ o c.env)=bJ o c.env) XZ)
  (U1:autoParam (((fb pos (aE (e::es) c.env)).all (λx=> !x.1)&&(cM pos (bR [] c.env)).all (λx=>x.1.isSome)
   &&decide ((e::es).length+([]:List eW).length+(if ([]:List eW).isEmpty then 0 else 1)<30))=ai) XZ)
  (Uv:autoParam ((apos.endLine==pos.line)=ai) XZ) (he:autoParam (aE (e::es) c.env=(false,bJ e c.env)::aE es c.env) XZ):
  Ev prog w (fs c σ Λ) (.Call (.Attribute o name apos) (e::es) [] pos) q:=
 K3 ho (λs v i r=>by
  subst r
  have:=(G.inBase _ i).frag _ _ hl
  exact ⟨⟨_,this,hT⟩,λb e=>by cases e;exact ⟨_,this,hd⟩⟩) pa slot VA ha hc Uq U1 Uv he
theorem uo (G:Gd w n c) (e:lV (KB w.params) bm x=aa (aa v)) (hr: ∀h,mP c.X h p v) (hx:autoParam (c.env.kindOf x=aa .globalImplicit) XZ) (hd:autoParam ((x==("__debug__":Str))=false) XQ):
  Ev prog w (fs c σ Λ) (.Name x pos) p:=
 Cz (v:=v) G.fn hx G.gl (λh i=>(G.inBase h i).glob e) hr hd
end
theorem On (b:oi P h):rk h 137 wL:=⟨_,_,_,_,_,_,_,b.frag 137 MO (by kernel_rfl),_,_,_,b.frag 136 Q9 (by kernel_rfl),rfl,by decide+kernel⟩
theorem Os (b:oi P h):rk h 142 rT:=⟨_,_,_,_,_,_,_,b.frag 142 LI (by kernel_rfl),_,_,_,b.frag 141 Pz (by kernel_rfl),rfl,by decide+kernel⟩
theorem N9 (b:oi P h):rk h 159 ui:=⟨_,_,_,_,_,_,_,b.frag 159 IW (by kernel_rfl),_,_,_,b.frag 158 Qg (by kernel_rfl),rfl,by decide+kernel⟩
theorem NV (b:oi P h):rk h 164 o8:=⟨_,_,_,_,_,_,_,b.frag 164 Cs (by kernel_rfl),_,_,_,b.frag 163 Qh (by kernel_rfl),rfl,by decide+kernel⟩
theorem KU: ∀(n:Nat) (l:List Nat),l.length<=n->(pe l).length<=2*l.length:=by
 intro n
 induction n with
 |zero=>intro l h;have:l=[]:=cC (by exact (my (.i (.l xA xJ) (.e xA xJ)) [_]) h);subst this;simp [pe]
 |succ n ih=>
  intro l h
  cases l with
  |nil=>simp [pe]
  |cons c r=>
   cases r with
   |nil=>rw [pe];split<;>simp
   |cons d r'=>
    have h1:=ih r' (by simp at h;exact (my (.i (.l (.a xA xI) xB) (.l xA xB)) [_,_]) h)
    have h2:=ih (d::r') (by simp at h ⊢;omega)
    simp only [aU] at h2 ⊢
    rw [pe]
    split
    ·split<;>simp only [aU]<;>(first|exact (my (.i (.l xA (.m 2 (.a xB xI))) (.l (.a (.a xA xI) xI) (.m 2 (.a (.a xB xI) xI)))) [_,_]) h2|exact (my (.i (.l xA (.m 2 xB)) (.l (.a (.a xA xI) xI) (.m 2 (.a (.a xB xI) xI)))) [_,_]) h1)
    ·split<;>simp only [aU]<;>(first|exact (my (.i (.l xA (.m 2 (.a xB xI))) (.l (.a (.a xA xI) xI) (.m 2 (.a (.a xB xI) xI)))) [_,_]) h2|exact (my (.i (.l xA (.m 2 (.a xB xI))) (.l (.a xA xI) (.m 2 (.a (.a xB xI) xI)))) [_,_]) h2)
end
section
open PySem.Calls PyProof.Rows PySem.Builtin.Str PySem.Builtin
set_option maxHeartbeats 4000000 in
theorem Gv (ha:a.length<=1000000) (hb:b.length<=1000000):
  Meets («str.__mod__» ⟨[.str ⟨#[37,115,58,32,37,115]⟩ t,.ref d],[]⟩) (λz R s=>IsTup s.heap d #[.str a t1,.str b t2]/\ ∀t' k,R (.ok (.ret (.str ((a++PySem.Str.ofString ": ")++b) t'))) {s with toks:=k}):=by kpt_run
section
variable {prog:aH} {w:av} {A:aX} {X:List aF} {I:aW->Prop}
theorem OT (hm: ∀t t1 t2 d,Meets («str.__mod__» ⟨[.str (S fm) t,.ref d],[]⟩) (λj R s=>IsTup s.heap d #[.str (S a) t1,.str (S b) t2]/\ ∀t' k,R (.ok (.ret (.str T t'))) {s with toks:=k})):
  n0 prog w A X (cf .Mod) (.str (S fm)) (.tup [.str (S a),.str (S b)]) (.str T):=λs x y j r q=>by
 obtain ⟨t,rfl⟩:=nt r
 refine ni (OU q) λd vs T1 y ht hr=> ?_;obtain rfl:=T1
 refine nh (sN hr) λu z T1 r1 r2=> ?_;obtain rfl:=T1
 obtain ⟨t1,rfl⟩:=nt r1
 obtain ⟨t2,rfl⟩:=nt r2
 have hT:s.TypeIs (.ref d) "tuple":=by
  obtain ⟨o,ho,hc,_⟩:=ht
  exact ⟨o,ho,hc⟩
 exact KPt.bin_left (T:="str") (U:="tuple") (op:=.Mod) (by decide) (dR s _ t) hT F.fills_str_mod KPt.fills_tuple F.slot_str_mod
  (gL F.slot_str_mod (dR s _ t) F.entry_str_mod (F.args_str_mod_2 _ _) (hm t t1 t2 d) ⟨ht,λt' k=>⟨(λe=>nomatch e),oA _ _,oh⟩⟩)
theorem MM (ha:a.length<=1000000) (hb:b.length<=1000000):n0 prog w A X (cf .Mod) (.str (S [37,115,58,32,37,115])) (.tup [.str (S a),.str (S b)]) (.str (S (a++58::32::b))):=by
 have e:(S a++PySem.Str.ofString ": ")++S b=S (a++58::32::b):=by
  rw [show PySem.Str.ofString ": "=S [58,32] by decide+kernel,uW,uW,aJ];rfl
 exact e▸OT λt t1 t2 d=>Gv (by rw [mW];exact ha) (by rw [mW];exact hb)
end
end
section
open PySem.Calls PyProof.Rows PySem.Builtin.Str
section
variable {prog:aH} {w:av} {A:aX} {X:List aF} {I:aW->Prop}
theorem t8 (h:l.length<=1000000):tO prog w A X (.str (S l)) (!l.isEmpty):=λs v r=>by
 refine eE (nt r) λt T1=> ?_;obtain rfl:=T1
 refine P.truthy_str (by rw [mW];exact (my (.i (.l xA (.c 1000000)) (.n (.L xS (.k xA)))) [_]) h) ⟨oA _ _,?_⟩
 rw [mW]
 cases l with
 |nil=>rfl
 |cons=>simp;exact my (.n (.E (.a (.k xA) xI) xJ)) [_]
theorem z9 {l:List UInt8} (h:l.length<=1000000):tO prog w A X (.bytes l.toArray) (!l.isEmpty):=λs v r=>by
 refine eE r ?_;clear r;intro t T1;obtain rfl:=T1
 refine truthy_bytes (by rw [bo];omega) ⟨oA _ _,?_⟩
 rw [bo]
 cases l with
 |nil=>rfl
 |cons=>simp;exact my (.n (.E (.a (.k xA) xI) xJ)) [_]
theorem qu:tO prog w A X (.bool b) b:=λs v r=>by
 rw [L0 r]
 exact fO ⟨mO _,rfl⟩
theorem JG:tO prog w A X (.int i) (i !=0):=λs v r=>by
 refine eE (tB r) λt T1=> ?_;obtain rfl:=T1
 exact truthy_int ⟨mO _,rfl⟩
structure Jb (prog:aH) (w:av) (φ:Fs) (es:List Expr) (l:List Nat):Prop where
 run: ∀(s:aq) (Ut:List Nat) (Q:Str->aq->Prop),φ.I s.heap->Ut.length+l.length<=100000->(∀s',bB s s'->Q (S (Ut++l)) s')->PySem.Joins (aI prog w) φ.A (λz z=>False) (evalEach es φ.env) (S Ut) Q s
theorem OR:Jb prog w φ [] []:=.mk λs Ut Q i hl q=>by
 have:=q s (mO _)
 rw [bK] at this
 exact this
theorem wf (h:Ev prog w φ e (.str (S a))) (hs:Jb prog w φ es b):Jb prog w φ (e::es) (a++b):=.mk λs Ut Q i hl q=>by
 rw [af] at hl
 have hz:=aw
 refine ab (h.run s i) (λv T0 uu=>eA uu λT2 T5=> ?_) λz z e=>e
 refine eE (nt T5) λt T1=> ?_;obtain rfl:=T1
 refine ⟨_,t,rfl,by rw [uW,mW,af];exact (my (.i (.l (.a xA (.a xB xD)) (.c 100000)) (.i (.e xC xL) (.l (.a xA xB) xC))) [_,_,_,_]) hl hz,?_⟩
 rw [uW]
 exact hs.run T0 (Ut++a) Q (φ.mono' i T2) (by rw [af];exact (my (.i (.l (.a xA (.a xB xC)) (.c 100000)) (.l (.a (.a xA xB) xC) (.c 100000))) [_,_,_]) hl) λs' k=>by rw [aJ];exact q s' (mH T2 k)
theorem KM (h:Jb prog w φ (VV::UD::es) l) (hl:l.length<=100000):Ev prog w φ (.JoinedStr (VV::UD::es) pos) (.str (S l)):=.mk λs i=>by
 have hz:=aw
 refine wpAny_JoinedStr (h.run s [] _ i (by simpa using hl) λs' k=>⟨by rw [dD,mW];exact (my (.i (.l xA (.c 100000)) (.i (.e xB xL) (.l xA xB))) [_,_]) hl hz,mH k (oA _ _),oh⟩)
theorem NC (h:Ev prog w φ e (.str (S a))) (hl:a.length<=100000):Ev prog w φ (.FormattedValue e 115 az pos) (.str (S a)):=.mk λs i=>by
 have hz:=aw
 have hb:(S a).length<=bn:=by rw [mW];exact (my (.i (.l xA (.c 100000)) (.i (.e xB xL) (.l xA xB))) [_,_]) hl hz
 refine wpAny_FormattedValue_s (ab (h.run s i) (λv T0 uu=>eA uu λT2 T5=> ?_) λz z e=>e)
 refine eE (nt T5) λt T1=> ?_;obtain rfl:=T1
 exact wpAny_habitSame_str (hx:=hb) (wpAny_formatField_str (hx:=hb) ⟨T2,oh⟩ ⟨mH T2 (oA _ _),oh⟩)
  (wpAny_formatField_str (hx:=hb) ⟨mH T2 (oA _ _),oh⟩ ⟨mH T2 (oA _ _),oh⟩)
noncomputable def DX:ay->Option (List Nat)
 |.str x _=>aa x.cps.toList
 |_=>az
theorem xV: ∀{ls:List (List Nat)} {vs:List ay},vs.map DX=ls.map aa->mK X h (ls.map λl=>.str (S l)) vs
 |[],[],_=>mK.nil
 |[],_::_,e=>by cases e
 |_::_,[],e=>by cases e
 |l::ls,v::vs,e=>by
  simp only [ba,List.cons.injEq] at e
  refine mK.cons ?_ (xV e.2)
  cases v with
  |str x t=>
   have:=e.1
   simp only [DX,ka] at this
   subst this
   exact oh
  |_=>exact nE e.1
theorem t5 (ns:List Str) {ps ds:List PV} (dvs:List ay) (T:qP w.params a fd body) (hds: ∀X h,mK X h ds dvs)
  (Ul: ∀(s:aq) (vs:List ay),oi w.params s.heap->vs.length=ps.length->l8 s fd ⟨vs,[]⟩ (ns.zip (vs++dvs)))
  (h: ∀A X g L,n7 X g->Gd w n (mV fd a A X [] g L)->mT prog w (bf fd L a) (A.deeper (bf fd L a)) (In (mV fd a A X [] g L) (ql ns (ps++ds)) []) body (ux g X p)) (F:autoParam (JI fd ns=ai) XQ):rH prog w (n+1) a ps p:=by
 have F:=v6 F
 intro A X I hr hI hO
 refine Ha (qs:=ps++ds) ns (λh i=>(hI h i).defAt T) hr.lim (λs vs i r=> ?_) F λg L i lx=> ?_
 ·exact Ul s vs (hI _ i) r.len _ _ _ _ ⟨mO _,_,rfl,r.append (hds _ _)⟩
 ·exact h A X g L lx ⟨hI g i,hO,hr.deeper _,F.kind,F.gl,F.bl⟩
end
def Has (σ σ':mX):Prop:= ∀q∈σ',σ.lookup q.1=aa q.2
theorem B6:Has σ []:=λz h=>nomatch h
theorem xq (h:σ.lookup x=aa p) (t:Has σ σ'):Has σ ((x,p)::σ'):=λq hq=>by
 rcases ao.mp hq with e|e
 ·subst e;exact h
 ·exact t q e
theorem Mn {σ:mX} (e:σ.lookup x=aa p):(x,p)∈σ:=by
 induction σ with
 |nil=>simp at e
 |cons q σ ih=>
  obtain ⟨y,b⟩:=q
  by_cases hy:(x==y)=ai
  ·simp [aD,hy] at e;subst e;rw [beq_iff_eq.mp hy];exact .head _
  ·simp [aD,hy] at e;exact .tail _ (ih e)
theorem In.has (i:In c σ Λ h) (k:Has σ σ'):In c σ' Λ h:=i.weak λx p e=>k (x,p) (Mn e)
section
variable {prog:aH} {w:av} {c:Sc} {σ σ':mX} {Λ:List (aF×List PV)}
theorem o7 (k:Has σ σ') (h:mT prog w c.env c.A (In c σ' Λ) b J):mT prog w c.env c.A (In c σ Λ) b J:=sX h (λz i=>i.has k) λz z j=>j
theorem Gd.loop (G:Gd w n c) (k:mU c.g g') (hf: ∀a∈is,c.g.get? a=az):Gd w n ((c.addX is).at g'):=
 ⟨G.base.keep k,CG (zC G.base hf) G.off,G.room,G.fn,G.gl,G.bl⟩
theorem rJ (G:Gd w n c) {α:Type} {l:List α} {V:α->PV} {bs:α->mX} {J:hF->aW->Prop} (σs:Nat->mX) (Λs:Nat->List (aF×List PV))
  (hi:uy prog w c σ Λ c.own T8 iter (l.map V)) (h0:σs 0=σ) (W4:Λs 0=Λ) (ha: ∀a is,a∈l->zj prog w (c.addX is) T8 (V a) (bs a))
  (hb: ∀i a g' is,l[i]? =aa a->Gd w n ((c.addX is).at g')->mT prog w ((c.addX is).at g').env ((c.addX is).at g').A (In ((c.addX is).at g') (bs a++σs i) (Λs i)) body (λfl h=>((fl= .next\/fl= .cont)/\In ((c.addX is).at g') (σs (i+1)) (Λs (i+1)) h)\/((∃v,fl= .ret v)/\J fl h)))
  (hr:mT prog w c.env c.A (In c (σs l.length) (Λs l.length)) rest J) (hs:autoParam (∀x,cO iter c.env x=bG x) X1):
  mT prog w c.env c.A (In c σ Λ) (.For T8 iter body [] pos::rest) J:=
 GO σs Λs hi h0 W4 ha (λi a g' is hk kg hf=>hb i a g' is hk (G.loop kg hf)) hr hs
theorem qM {J:hF->aW->Prop} (k:Has σ σ'):mT prog w c'.env c'.A (In c' σ Λ) [] (λfl h=>((fl= .next\/fl= .cont)/\In c' σ' Λ h)\/((∃v,fl= .ret v)/\J fl h)):=sJ λg i=>.inl ⟨.inl rfl,i.has k⟩
theorem Jn {J:hF->aW->Prop} (k:Has σ σ'):mT prog w c'.env c'.A (In c' σ Λ) (.Continue pos::b) (λfl h=>((fl= .next\/fl= .cont)/\In c' σ' Λ h)\/((∃v,fl= .ret v)/\J fl h)):=EQ λg i=>.inl ⟨.inr rfl,i.has k⟩
theorem GU {ι:Type} {P:ι->Prop} {m:ι->Nat} {σs:ι->mX} {Λs:ι->List (aF×List PV)} {i:ι} (j:ι) (hP:P j) (hm:m j<m i) (hL:Λs j=Λ) (k:Has σ (σs j)):
  mT prog w c.env c.A (In c σ Λ) [] (λfl h=>(fl= .next\/fl= .cont)/\ ∃j,P j/\m j<m i/\In c (σs j) (Λs j) h):=sJ λg q=>⟨.inl rfl,j,hP,hm,by rw [hL];exact q.has k⟩
theorem N1 {ι:Type} {P:ι->Prop} {m:ι->Nat} {σs:ι->mX} {Λs:ι->List (aF×List PV)} {i:ι} (j:ι) (hP:P j) (hm:m j<m i) (hL:Λs j=Λ) (k:Has σ (σs j)):
  mT prog w c.env c.A (In c σ Λ) (.Continue pos::b) (λfl h=>(fl= .next\/fl= .cont)/\ ∃j,P j/\m j<m i/\In c (σs j) (Λs j) h):=EQ λg q=>⟨.inr rfl,j,hP,hm,by rw [hL];exact q.has k⟩
end
section
variable {prog:aH} {w:av} {A:aX} {X:List aF} {I:aW->Prop}
theorem wJ:n0 prog w A X (bP .In) (.str y) (.str x) (.bool (Txt.contains x y)):=λs a b z r q=>by
 obtain ⟨t,rfl⟩:=nt r;obtain ⟨u,rfl⟩:=nt q
 exact P.in_str ⟨mO _,uJ⟩
theorem Ee:n0 prog w A X (bP .NotIn) (.str y) (.str x) (.bool (!Txt.contains x y)):=λs a b z r q=>by
 obtain ⟨t,rfl⟩:=nt r;obtain ⟨u,rfl⟩:=nt q
 exact P.notIn_str ⟨mO _,uJ⟩
theorem tm (l:List Nat) (c:Nat):Txt.contains (S l) (S [c])=l.contains c:=by
 show (!(j7 (S l) ⟨#[c]⟩ 0 (S l).length 1).isEmpty)=_
 rw [StrLaws.found_one]
 simp
end
section
variable {α:Type}
theorem xY (n i:Nat):dQ n (i:Int)=min i n:=by
 have:=clipAt_cast n (i:Int)
 rw [if_neg (by exact my (.n (.B (.k xA) xJ)) [_])] at this
 exact (my (.i (.E (.k xA) (.x xJ (.n (.k xB) (.k xC)))) (.e xA (.n xB xC))) [_,_,_]) this
theorem A2 (n k:Nat) (hk:1<=k):dQ n (-(k:Int))=n - k:=by
 have:=clipAt_cast n (-(k:Int))
 rw [if_pos (by exact (my (.i (.l xI xA) (.B (.g (.k xA)) xJ)) [_]) hk)] at this
 exact (my (.i (.E (.k xA) (.x xJ (.n (.a (.g (.k xC)) (.k xB)) (.k xB)))) (.e xA (.s xB xC))) [_,_,_]) this
theorem EC {l:List α} (h:min a l.length=min b l.length):l.take a=l.take b:=List.take_eq_take_iff.mpr h
theorem EA (l:List α) (i:Nat):l.drop (min i l.length)=l.drop i:=by
 rcases kK i l.length with h|h
 ·rw [fW h]
 ·rw [Nat.min_eq_right h,fq (aN _),fq h]
theorem BS (l:List α) (i j:Nat):qY l (aa (i:Int)) (aa (j:Int))=(l.drop i).take (j - i):=by
 show (l.drop (dQ l.length (i:Int))).take (dQ l.length (j:Int) - dQ l.length (i:Int))=_
 rw [xY,xY,EA]
 refine EC ?_
 rw [bH]
 rcases kK i l.length with h|h
 ·rw [fW h,<-Nat.sub_min_sub_right,Nat.min_assoc,Nat.min_self]
 ·rw [ic h,kJ,kJ]
theorem PL (l:List α) (i:Nat):qY l (aa (i:Int)) az=l.drop i:=by
 show (l.drop (dQ l.length (i:Int))).take (l.length - dQ l.length (i:Int))=_
 rw [xY,EA]
 refine bF ?_
 rw [bH]
 exact my (.l (.s xA xB) (.s xA (.n xB xA))) [_,_]
theorem Jr (l:List α) (j:Nat):qY l az (aa (j:Int))=l.take j:=by
 show (l.drop 0).take (dQ l.length (j:Int) - 0)=_
 rw [xY,eG]
 exact EC (by exact my (.e (.n (.s (.n xA xB) xJ) xB) (.n xA xB)) [_,_])
theorem BC (l:List α) (k:Nat) (hk:1<=k):qY l az (aa (-(k:Int)))=l.take (l.length - k):=by
 show (l.drop 0).take (dQ l.length (-(k:Int)) - 0)=_
 rw [A2 _ _ hk,eG,gZ]
theorem QW (l:List α):qY l az az=l:=by
 show (l.drop 0).take (l.length - 0)=_
 simp
end
end
section
open PySem.Calls PyProof.Rows PySem.Builtin.Str PySem.Builtin
namespace BA
noncomputable def bound (D:aF):Obj:={cls:=.type "builtin_function_or_method",data:=.fields #[.builtin "list.append",.ref D]}
theorem slot_get:Slot "method_descriptor" "__get__" "method_descriptor.__get__":=
 .of (owner:="method_descriptor") (n:="__get__") (by rw [cz,bA];kernel_rfl) (by decide+kernel) (by decide+kernel) (by decide+kernel)
  (by first|exact .inl (by decide+kernel)|exact .inr (by decide+kernel)) (by rw [dZ];kernel_rfl)
theorem entry_get:entryFor table "method_descriptor.__get__"=aa Builtin.«method_descriptor.__get__»:=ib (by kernel_rfl)
theorem args_get (a b c:ay):argsOk "method_descriptor.__get__" ⟨[a,b,c],[]⟩:=by kernel_rfl
theorem no_set:fu (.type "method_descriptor") "__set__"=bG az:=by rw [cz,bA];kernel_rfl
theorem no_delete:fu (.type "method_descriptor") "__delete__"=bG az:=by rw [cz,bA];kernel_rfl
theorem sub_list:jR (.type "list") (.type "list")=bG ai:=by rw [dZ];kernel_rfl
theorem not_told:Manifest.toldItsClass.contains "list.append"=false:=by decide+kernel
section
variable {prog:aH} {w:av} {M:Model} {A:aX} {E:ay->aq->Prop} {s:aq} {D:aF} {vs:Array ay} {n:Nat}
theorem run_get {P:Fin->aq->Prop} (hD:s.heap.get? D=aa {cls:=.type "list",data:=.seq vs n}) (h:P (.done (.ret (.ref s.heap.objs.size))) {s with heap:=s.heap.push (bound D)}):
  aC M A (Builtin.«method_descriptor.__get__» ⟨[.builtin "list.append",.ref D,.type "list"],[]⟩) P E s:=by
 unfold Builtin.«method_descriptor.__get__»
 refine ae (bD (a:=(.builtin "list.append",aa (.ref D),aa (.type "list"))) (by first|rfl|kernel_rfl) ?_)
 simp only [not_told]
 have hT:s.TypeIs (.ref D) "list":=⟨_,hD,rfl⟩
 have e1:(kfb_private% "nameAndClass") (.builtin "list.append")=bG (PySem.Str.ofString "append",.type "list"):=by first|rfl|kernel_rfl
 refine gY rfl ?_
 k_delta "bindBuiltin"
 k_delta "checkInstance"
 refine ae (ae (bD e1 ?_))
 refine ae (jU hT sub_list ?_)
 refine gY rfl ?_
 exact aj (ae (eI (aj h)))
theorem run_find {t:Tok} {P:PySem.Fin->aq->Prop} (hD:s.heap.get? D=aa {cls:=.type "list",data:=.seq vs n})
  (h:P (.done (.ret (.ref s.heap.objs.size))) {s with heap:=s.heap.push (bound D)}):
  aC (aI prog w) A (Builtin.«object.__getattribute__» ⟨[.ref D,.str "append" t],[]⟩) P E s:=by
 obtain ⟨hp,g,d,tk,os⟩:=s
 have hT:(⟨hp,g,d,tk,os⟩:aq).TypeIs (.ref D) "list":=⟨_,hD,rfl⟩
 have f6:=F.slot_list_append.lookup
 have f7:=F.type_list_append
 have f8:=slot_get.lookup
 have f9:=no_set
 have f10:=no_delete
 unfold Builtin.«object.__getattribute__»
 repeat (any_goals (first|assumption|wp_step))
 refine i9 slot_get.plain entry_get (slot_get.check _ _ _ _ _ _ _ _ f7 (args_get _ _ _) (run_get hD ?_))
 exact aj h
theorem getAttr_append {Q:ay->aq->Prop} (hD:s.heap.get? D=aa {cls:=.type "list",data:=.seq vs n})
  (h: ∀tk,Q (.ref s.heap.objs.size) {s with heap:=s.heap.push (bound D),toks:=tk}):aC (aI prog w) A (getAttr (.ref D) "append" ai) Q E s:=by
 obtain ⟨hp,g,d,tk,os⟩:=s
 have hT: ∀tk',(⟨hp,g,d,tk',os⟩:aq).TypeIs (.ref D) "list":=λz=>⟨_,hD,rfl⟩
 have f3:=F.slot_list_getattribute.lookup
 have f4:=F.slot_list_getattribute.bind (.ref D)
 have f5:=am_list_getattr_none
 repeat (any_goals (first|assumption|exact hT _|wp_step))
 exact i9 F.slot_list_getattribute.plain am_entry_list_getattribute (F.slot_list_getattribute.check _ _ _ _ _ _ _ _ (hT _) (F.args_list_getattribute_2 _ _) (run_find hD (aj (h _))))
def StandsAt (x D:aF) (h:aW):Prop:=h.get? x=aa (bound D)
theorem callWith_fields {x:aF} {pos:Pos} {first:List ay} {args:List (Bool×Sem ay)} {Q:ay->aq->Prop} (Xj:args.any (·.1)=false)
  (h:aC M A (evalArgs (.ref x) ai args []) (λy T0=>StandsAt x D T0.heap/\aC M A (ft (.ref x) (first++y.pos) y.kw) Q E T0) E s):aC M A (gI pos (.ref x) first args []) Q E s:=by
 refine ae (bL (ab h (λx T0 Ub=>ae (eD ?_)) λz z x=>x))
 refine eA Ub λho V6=> ?_
 simp only [Xj,List.any_nil,iM]
 refine ae (m:=keeperOf (.ref _)) ?_
 refine ae (wpAny_load ho ?_)
 refine KFB.if_so (show (du "builtin_function_or_method"!=du "method")=ai by decide) ?_
 refine aj ?_
 exact ae (ab V6 (λr T3 hr=>ae (bL (wpAny_point (aj hr)))) λz z x=>x)
theorem quiet: ∀{as:Args},(Code.builtin "list.append" as).quiet=ai:=Code.quiet_builtin _ (by decide+kernel)
theorem sub_module:jR (.type "list") (.type "module")=bG false:=by rw [dZ];kernel_rfl
theorem sigd:(g8 "list.append").isSome=ai:=by rw [ll (id:="list.append") (n:=['d','n','e','p','p','a']) (o:=['t','s','i','l']) (by kernel_rfl) F.owner_list];kernel_rfl
theorem kind:builtinKind "list.append"=aa .method:=by kernel_rfl
theorem noVar:Manifest.varargsMethods.contains "list.append"=false:=by decide+kernel
theorem args_here {D:aF} {y:ay}:(match g8 "list.append" with|some sig=>Bind.checkArgs "list.append" {sig with full:="list.append"} ⟨[.ref D,y],[]⟩|none=>bG ())=bG ():=by
 rw [ll (id:="list.append") (n:=['d','n','e','p','p','a']) (o:=['t','s','i','l']) (by kernel_rfl) F.owner_list];kernel_rfl
theorem check {y:ay} {Q:Unit->aq->Prop} (hD:s.heap.get? D=aa {cls:=.type "list",data:=.seq vs n}) (h:Q () s):aC M A (checkBoundCall "list.append" ⟨[.ref D,y],[]⟩) Q E s:=by
 have hT:s.TypeIs (.ref D) "list":=⟨_,hD,rfl⟩
 have hg:=args_here (D:=D) (y:=y)
 unfold checkBoundCall
 cases hs:g8 "list.append" with
 |none=>have:=sigd;rw [hs] at this;exact oJ this
 |some sig=>
  rw [hs] at hg
  dsimp only at hg ⊢
  rw [kind]
  refine gY rfl ?_
  refine ae (jU hT sub_module ?_)
  rw [noVar]
  refine gY rfl ?_
  have e:(toString (Bind.lastOf "list")++toString "."++toString (Bind.lastOf "list.append"):String)="list.append":=by decide+kernel
  refine ae ?_
  simp only [isType,loadHead]
  refine ae (kH hD (aj ?_))
  refine gY rfl ?_
  refine ae (wpAny_typeOf hT ?_)
  dsimp only
  rw [e]
  exact bD hg h
theorem call_app {x:aF} {y:ay} {Ug:Array ay} {Q:ay->aq->Prop} (ho:StandsAt x D s.heap) (hl:s.heap.PlainList D Ug)
  (hQ: ∀h',h'.PlainList D (Ug.push y)->cL D s.heap h'->Q .none {s with heap:=h'}) (hsz:Ug.size<=bn):aC (aI prog w) A (ft (.ref x) [y]) Q E s:=by
 refine eo (codeAny_of_tree ?_)
 refine ae (wpAny_load ho ?_)
 show aC _ _ (if (du "builtin_function_or_method"==du "method"||Value.type "builtin_function_or_method"==du "builtin_function_or_method"||Value.type "builtin_function_or_method"==du "method-wrapper")=ai then _ else _) _ _ _
 refine KFB.if_so (by decide) ?_
 show aC _ _ (if (du "builtin_function_or_method"!=du "method")=ai then _ else _) _ _ _
 refine KFB.if_so (by decide) ?_
 refine eE hl λn hl=> ?_
 refine ae (check hl ?_)
 refine aj ⟨quiet,gp entry_list_append ?_⟩
 show aC _ _ (updateSeq D (·.push y) >>= λz=>ret .none) _ _ s
 refine ae ?_
 refine fg hl rfl (aj (hQ _ ⟨n+1,?_⟩ (ef ..)))
 rw [cr _ hl (by rw [fF];rfl),fF]
end
end BA
end
section
open PySem.Calls PyProof.Rows PySem.Builtin.Str
section
variable {prog:aH} {w:av} {c:Sc} {σ:mX} {Λ:List (aF×List PV)}
theorem Gd.addOwn (G:Gd w n c) (D:aF):Gd w n (c.addOwn D):=⟨G.base,G.off,G.room,G.fn,G.gl,G.bl⟩
theorem Gd.at' (G:Gd w n c) (k:mU c.g g'):Gd w n (c.at g'):=⟨G.base.keep k,G.off,G.room,G.fn,G.gl,G.bl⟩
theorem v0 (G:Gd w n c) {α:Type} {l:List α} {V:α->PV} {bs:α->mX} (σs:Nat->mX) (Λs:Nat->List (aF×List PV))
  (hi:uy prog w c σ Λ c.own T8 iter (l.map V)) (h0:σs 0=σ) (W4:Λs 0=Λ) (ha: ∀a is,a∈l->zj prog w (c.addX is) T8 (V a) (bs a))
  (hb: ∀i a g' is,l[i]? =aa a->Gd w n ((c.addX is).at g')->mU c.g g'->mT prog w ((c.addX is).at g').env ((c.addX is).at g').A (In ((c.addX is).at g') (bs a++σs i) (Λs i)) body (λfl h=>((fl= .next\/fl= .cont)/\In ((c.addX is).at g') (σs (i+1)) (Λs (i+1)) h)\/((∃v,fl= .ret v)/\J fl h)))
  (hr:mT prog w c.env c.A (In c (σs l.length) (Λs l.length)) rest J) (hs:autoParam (∀x,cO iter c.env x=bG x) X1):
  mT prog w c.env c.A (In c σ Λ) (.For T8 iter body [] pos::rest) J:=
 GO σs Λs hi h0 W4 ha (λi a g' is hk kg hf=>hb i a g' is hk (G.loop kg hf) kg) hr hs
theorem F9 (hy:σ.lookup y=aa (.raw (.ref D))) (hl: ∃q∈Λ,q.1=D)
  (hb: ∀m g',mU c.g g'->g'.get? m=aa (BA.bound D)->mT prog w (c.at g').env (c.at g').A (In (c.at g') ((x,.raw (.ref m))::σ) Λ) b J)
  (hx:autoParam (sA c x) XJ) (hk:autoParam (c.env.scope.kind= .function) XZ) (hd:autoParam ((y==("__debug__":Str))=false) XQ)
  (hs:autoParam (cJ (.Attribute (.Name y yp) ("append":Str) ap) (aa (.Name x px)) pos.line c.env=bG false) XZ)
  (Uq:autoParam (db (.Name y yp) ("append":Str) c.env (bJ (.Name y yp) c.env)=bJ (.Name y yp) c.env) XZ) (ht:autoParam (∀o r,i8 (.Name y yp) o r=bG ()) X2):
  mT prog w c.env c.A (In c σ Λ) (.Assign [.Name x px] (.Attribute (.Name y yp) ("append":Str) ap) pos::b) J:=.mk λs i=>by
 refine mR (i.look hy) λv L rv=> ?_
 subst rv
 refine mR hl ?_;clear hl;intro q hq T1;obtain rfl:=T1
 obtain ⟨hD,vs,⟨n,pl⟩,rs⟩:=i.lists _ hq
 rw [ci]
 refine ae (cN ?_ hs)
 rw [arm_eval_Attribute,Uq]
 refine ae (jA (va hk L ?_) hd)
 refine ae (eD ?_)
 refine ae (bL ?_)
 refine BA.getAttr_append pl λtk=> ?_
 rw [ht]
 refine ae (aj (aj ?_))
 have T2:bB s {s with heap:=s.heap.push (BA.bound q.1),toks:=tk}:=mZ s _ tk
 have T9:=i.mono (mG T2)
 refine ab (rC (p:=.raw (.ref s.heap.objs.size)) T9 hx o9 hk) (λz T3 uu=>rQ uu λUD T7 kx=> ?_) λz z e=>e
 have hn:s.heap.objs.size∉c.own:=λhm=>by obtain ⟨_,e⟩:=i.live _ hm;exact absurd (aR e) (bY _)
 have hm:(hideAll T3.heap c.own).get? s.heap.objs.size=aa (BA.bound q.1):=by
  exact bS _ (kx _ _ hn (au _ rfl)) hn
 exact ab ((hb _ _ (wF T7) hm).run T3 T7.hide) (λfl Ua uu=>eA uu λUL j=>⟨((nB.of T2).trans (UD.trans UL)),j⟩) λz z e=>e
theorem tM (hm:c.g.get? m=aa (BA.bound D)) (hx:σ.lookup x=aa (.raw (.ref m)))
  (he:Ev prog w (fs c σ ((D,l)::Λ)) e p) (hsz:l.length<=bn) (Uk: ∀q∈Λ,q.1≠D)
  (hb:mT prog w c.env c.A (In c σ ((D,l++[p])::Λ)) b J)
  (hi:autoParam (i6 c.env=false) XZ) (hs:autoParam (cJ (.Call (.Name x xp) [e] [] pos) az Vi.line c.env=bG false) XZ)
  (hd:autoParam ((x==("__debug__":Str))=false) XQ) (hk:autoParam (c.env.scope.kind= .function) XZ)
  (UT:autoParam (aE [e] c.env=(false,bJ e c.env)::aE [] c.env) XZ):
  mT prog w c.env c.A (In c σ ((D,l)::Λ)) (.Expr (.Call (.Name x xp) [e] [] pos) Vi::b) J:=
 qT (I':=In c σ ((D,l++[p])::Λ)) (λs i=>by
  refine mR (i.look hx) λv L rv=> ?_
  subst rv
  refine fM ?_ hi hs
  refine cm (jA (va hk L ?_) hd)
  refine BA.callWith_fields (D:=D) (by rw [UT];rfl) (qp (cB (ab (he.run s i) (λu T0 uu=>eA uu λT2 T5=>cF ?_) λz z e=>e) UT) UT)
  have T9:=i.mono (mG T2)
  have hm1:T0.heap.get? m=aa (BA.bound D):=T9.keep _ _ hm
  refine ⟨hm1,?_⟩
  refine oV (T9.lists _ (.head _)) λhD vs pl rs=> ?_
  refine BA.call_app hm1 pl (λh' hl XC=>⟨(nB.of T2).trans ⟨_,_,rfl⟩,T9.push T5 (λus pu=> ?_) XC Uk⟩) (by rw [bo,rs.len];exact hsz)
  refine eE pl λn e=> ?_
  refine eE pu λn' e'=> ?_
  rw [e] at e'
  have:vs=us:=by
   have q:=congrArg Obj.data (am e')
   injection q with q1 q2
   simpa using q1
  subst this
  simpa using hl) hb
theorem sr {J:hF->aW->Prop} (k:Has σ σ') (e:Λ=Λ'):mT prog w c'.env c'.A (In c' σ Λ) [] (λfl h=>((fl= .next\/fl= .cont)/\In c' σ' Λ' h)\/((∃v,fl= .ret v)/\J fl h)):=by subst e;exact qM k
end
end
section
open PySem.Calls PyProof.Rows PySem.Builtin.Str
def uj (X:List aF) (h:aW) (a:aF) (l:List PV):Prop:= ∃d D vs,oO h a d D/\h.IsList D vs.toArray/\mK X h l vs
theorem oO.keep (t:oO h a d D) (k:mU h h'):oO h' a d D:=⟨k _ _ t.obj,let ⟨o,e,r⟩:=t.dic;⟨o,k _ _ e,r⟩⟩
theorem uj.keep (t:uj X h a l) (k:mU h h'):uj X h' a l:=
 let ⟨d,D,vs,x,y,z⟩:=t;⟨d,D,vs,x.keep k,y.at λo e=>k _ _ e,z.keep k⟩
theorem uj.sub (t:uj X h a l) (k: ∀b,b∈Y->(∃o,h.get? b=aa o)->b∈X):uj Y h a l:=
 let ⟨d,D,vs,x,y,z⟩:=t;⟨d,D,vs,x,y,z.sub k⟩
theorem vN (t:oO h a d D): ∃od,InstAt h a (fZ 293 d) 293 (aa od)/\gm "_headers" od=aa (aa (.ref D))/\ ∀n:Str,(n=="_headers")=false->gm n od=aa az:=
 let ⟨od,e,p,q⟩:=t.dic;⟨od,⟨t.obj,rfl,rfl,e⟩,p,q⟩
theorem Bh (P:aQ):iV (KB P) (.ref 293) "__getattribute__"=aa (aa (.builtin "object.__getattribute__")):=by kernel_rfl
theorem DK (P:aQ):iV (KB P) (.ref 293) "__getattr__"=aa az:=by kernel_rfl
theorem Sg (P:aQ):iV (KB P) (.ref 293) "_headers"=aa az:=by kernel_rfl
theorem Hl (P:aQ):(clsIn (KB P) 293).any (·.hasDict)=ai:=by kernel_rfl
theorem Pl (e:gm "_headers" od=aa (aa (.ref D))):findObj (KB P) 293 (aa od) "_headers"=aa (.value (.ref D)):=by
 refine mR (any_some (Hl P)) λcd hc hd=> ?_
 unfold findObj
 rw [hc,gF,Sg,gF]
 unfold W.ownOf
 rw [gF,gF,hd,if_pos rfl]
 dsimp only
 rw [e];rfl
section
variable {prog:aH} {w:av} {c:Sc} {σ:mX} {Λ:List (aF×List PV)}
theorem uH (G:Gd w n c) (ho:Ev prog w (fs c σ Λ) o (.raw (.ref a))) (ht:oO c.g a d D)
  (Uq:autoParam (db o "_headers" c.env (bJ o c.env)=bJ o c.env) XZ) (hl:autoParam (∀v r,i8 o v r=bG ()) X2):
  Ev prog w (fs c σ Λ) (.Attribute o "_headers" ap) (.raw (.ref D)):=.mk λs i=>by
 show aC _ _ (bJ _ c.env) _ _ s
 rw [arm_eval_Attribute,Uq]
 refine ae (ab (ho.run s i) (λv T0 uu=>eA uu λT2 T5=> ?_) λz z e=>e)
 subst T5
 have T9:=i.mono (mG T2)
 refine ae (eD (ae (bL ?_)))
 refine tF (vN (ht.keep T9.keep)) λod I e1 e2=> ?_
 refine get_value (G.inBase _ T9).frag I (Bh _) (Pl e1) rfl ?_
 rw [hl]
 exact ae (aj (aj ⟨mH T2 (oA _ _),o9⟩))
def Fc (prog:aH) (w:av) (φ:Fs) (pos:Pos) (Ve:List eW) (ks:List (Str×PV)):Prop:=
 (cM pos (bR Ve φ.env)).all (·.1.isSome)=ai/\(cM pos (bR Ve φ.env)).filterMap (·.1)=ks.map (·.1)/\
 ∀s:aq,φ.I s.heap->aC (aI prog w) φ.A (evalAll ((cM pos (bR Ve φ.env)).map (·.2))) (λus s'=>bB s s'/\mK φ.X s'.heap (ks.map (·.2)) us) (λz z=>False) s
theorem yq:Fc prog w φ pos [] []:=⟨rfl,rfl,λs i=>kwAll_nil ⟨mO _,mK.nil⟩⟩
theorem xw (h:Ev prog w φ e q):Fc prog w φ pos [⟨aa name,e,p⟩] [(name,q)]:=
 ⟨rfl,rfl,λs i=>kwAll_cons (ab (h.run s i) (λv T0 uu=>eA uu λT2 T5=>kwAll_nil ⟨T2,mK.cons T5 mK.nil⟩) λz z e=>e)⟩
structure tJ (prog:aH) (w:av) (φ:Fs) (o:Expr) (H:aW->aF->Prop):Prop where
 run: ∀s:aq,φ.I s.heap->aC (aI prog w) φ.A (bJ o φ.env) (λv s'=>bB s s'/\ ∃a,v= .ref a/\H s'.heap a) (λz z=>False) s
theorem Nc (G:Gd w n c)
  (ho:tJ prog w (fs c σ Λ) o H) (hH: ∀h a,H h a-> ∃d D,oO h a d D) (hm: ∀h h' a,H h a->mU h h'->H h' a)
  (hf:iV (KB w.params) (.ref 293) name=aa (aa (.ref f))) (Wg:(KB w.params).lookup f=aa ⟨oc,od,.func fd,sl⟩) (hn:(name==("_headers":Str))=false) (VA:lY (KB w.params) (.ref f)=aa (.type "function"))
  (ha:tG prog w (fs c σ Λ) pos (e::es) ps) (hk:Fc prog w (fs c σ Λ) pos Ve ks) (hc: ∀a,HF prog w c.A c.X (λh=>In c σ Λ h/\H h a) (.ref f) (.raw (.ref a)::ps) ks q)
  (V1:autoParam (bJ (.Call (.Attribute o name apos) (e::es) Ve pos) c.env=(do
   let ov <-bJ o c.env
   iv apos.atName
   let (f,first) <-gU [ov] (hZ ov name pl)
   gI pos f first (fb pos (aE (e::es) c.env)) (cM pos (bR Ve c.env)))) XZ)
  (he:autoParam (aE (e::es) c.env=(false,bJ e c.env)::aE es c.env) XZ):
  Ev prog w (fs c σ Λ) (.Call (.Attribute o name apos) (e::es) Ve pos) q:=.mk λs i=>by
 refine jv (ab (ho.run s i) (λv T0 uu=>oV uu λT2 a ea Ub=> ?_) λz z e=>e) V1
 subst ea
 have T9:=i.mono (mG T2)
 refine rN (hH _ _ Ub) λd D t=> ?_
 refine tF (vN t) λWU I e1 e2=> ?_
 refine lL (G.inBase _ T9).frag I (Bh _) (DK _) hf VA (by show (gm name WU).map _=_;rw [e2 _ hn];rfl) ?_
 refine nI (evalArgs_kw2 hk.1 (ab (ha.run T0 T9) (λvs T3 uu=>eA uu λT4 Uh=>ab (hk.2.2 T3 (T9.mono (mG T4))) (λus Ua uu=>eA uu λUc Uj=> ?_) λz z e=>e) λz z e=>e) he)
 have k13:=mH T4 Uc
 have Ui:=T9.mono (mG k13)
 refine ⟨rB ((G.inBase _ Ui).frag _ _ Wg) rfl,?_⟩
 show aC _ _ (ft (.ref f) ([.ref a]++vs) ((io (λx=>x.fst) (cM pos (bR Ve c.env))).zip us)) _ _ _
 rw [show io (λx=>x.fst) (cM pos (bR Ve c.env))=ks.map (·.1) from hk.2.1]
 exact ab (hc a Ua (.ref a::vs) us ⟨Ui,hm _ _ _ Ub (mG k13)⟩ Ui.liveAll (mK.cons o9 (Uh.keep (mG Uc))) Uj) (λz z uu=>eA uu λUx Wn=>⟨mH T2 (mH k13 Ux),Wn⟩) λz z e=>e
theorem Q2 (G:Gd w n c)
  (ho:tJ prog w (fs c σ Λ) o H) (hH: ∀h a,H h a-> ∃d D,oO h a d D) (hm: ∀h h' a,H h a->mU h h'->H h' a)
  (hf:iV (KB w.params) (.ref 293) name=aa (aa (.ref f))) (Wg:(KB w.params).lookup f=aa ⟨oc,od,.func fd,sl⟩) (hn:(name==("_headers":Str))=false) (VA:lY (KB w.params) (.ref f)=aa (.type "function"))
  (hc: ∀a,HF prog w c.A c.X (λh=>In c σ Λ h/\H h a) (.ref f) [.raw (.ref a)] [] q)
  (V1:autoParam (bJ (.Call (.Attribute o name apos) [] [] pos) c.env=(do
   let ov <-bJ o c.env
   iv apos.atName
   let (f,first) <-gU [ov] (hZ ov name pl)
   gI pos f first (fb pos (aE [] c.env)) (cM pos (bR [] c.env)))) XZ):
  Ev prog w (fs c σ Λ) (.Call (.Attribute o name apos) [] [] pos) q:=.mk λs i=>by
 refine jv (ab (ho.run s i) (λv T0 uu=>oV uu λT2 a ea Ub=> ?_) λz z e=>e) V1
 subst ea
 have T9:=i.mono (mG T2)
 refine rN (hH _ _ Ub) λd D t=> ?_
 refine tF (vN t) λWU I e1 e2=> ?_
 refine lL (G.inBase _ T9).frag I (Bh _) (DK _) hf VA (by show (gm name WU).map _=_;rw [e2 _ hn];rfl) ?_
 refine nI (wp ⟨rB ((G.inBase _ T9).frag _ _ Wg) rfl,?_⟩)
 exact ab (hc a T0 [.ref a] [] ⟨T9,Ub⟩ T9.liveAll (mK.cons o9 mK.nil) mK.nil) (λz z uu=>eA uu λUx Wn=>⟨mH T2 Ux,Wn⟩) λz z e=>e
def uM (w:av) (n:Nat) (f:aF) (H:List aF->aW->aF->Prop) (ps:List PV) (ks:List (Str×PV)) (q:PV):Prop:=
 ∀(A:aX) (X:List aF) (I:aW->Prop) (a:aF),pt n A->(∀h,I h->oi w.params h)->sP w.params X->(∀h,I h->H X h a)->HF mu w A X I (.ref f) (.raw (.ref a)::ps) ks q
theorem tj (ns:List Str) (dvs:List ay) (T:qP w.params f fd body) (hds: ∀X h,mK X h ds dvs)
  (Ul: ∀(s:aq) (x:ay) (vs us:List ay),oi w.params s.heap->vs.length=ps.length->us.length=ks.length->l8 s fd ⟨x::vs,(ks.map (·.1)).zip us⟩ (ns.zip (x::vs++us++dvs)))
  (h: ∀A X g L a,n7 X g->H X g a->Gd w n (mV fd f A X [] g L)->mT mu w (bf fd L f) (A.deeper (bf fd L f)) (In (mV fd f A X [] g L) (ql ns (.raw (.ref a)::ps++ks.map (·.2)++ds)) []) body (ux g X p)) (F:autoParam (JI fd ns=ai) XQ):uM w (n+1) f H ps ks p:=by
 have F:=v6 F
 intro A X I a hr hI hO hH
 refine FC (qs:=.raw (.ref a)::ps++ks.map (·.2)++ds) ns (λh i=>(hI h i).defAt T) hr.lim (λs vs us i r r'=> ?_) F λg L i lx=> ?_
 ·have hl:=r.len
  cases vs with
  |nil=>simp at hl
  |cons x vs=>exact Ul s x vs us (hI _ i) (by simpa using hl) (by rw [r'.len,ah]) _ _ _ _ ⟨mO _,_,rfl,(r.append r').append (hds _ _)⟩
 ·exact h A X g L a lx (hH g i) ⟨hI g i,hO,hr.deeper _,F.kind,F.gl,F.bl⟩
end
end
section
open PySem.Calls PyProof.Rows PySem.Builtin.Str
section
variable {prog:aH} {w:av} {A:aX} {X:List aF} {I:aW->Prop}
theorem Ig:tO prog w A X .none false:=λs v r=>by
 subst r
 exact truthy_none ⟨mO _,rfl⟩
theorem CR {a b:ay} (h:plainIs a b=ai):n0 prog w A X (bP .Is) (.raw a) (.raw b) (.bool (a==b)):=λs x y z r q=>by
 subst r;subst q
 exact wpAny_is_plain h ⟨mO _,uJ⟩
theorem E7 {a b:ay} (h:plainIs a b=ai):n0 prog w A X (bP .IsNot) (.raw a) (.raw b) (.bool (!(a==b))):=λs x y z r q=>by
 subst r;subst q
 exact wpAny_isNot_plain h ⟨mO _,uJ⟩
theorem vp (h: ∀h v,mP X h p v->plainIs v .none=ai/\v≠ .none):n0 prog w A X (bP .IsNot) p .none (.bool ai):=λs x y z r q=>by
 subst q
 obtain ⟨h1,h2⟩:=h _ _ r
 exact wpAny_isNot_other h1 h2 ⟨mO _,uJ⟩
theorem zr:pV prog w A X I (.type "type") [.str x] (.raw (.type "str")):=λs vs z z r=>by
 refine mR (qJ r) λv T1 r1=> ?_;obtain rfl:=T1;obtain ⟨t,rfl⟩:=nt r1
 exact call_type_of (dR _ _ _) (by decide) ⟨mO _,o9⟩
theorem wT {code:Array Nat} (hI: ∀h,I h->rk h a code/\ ∃o,h.get? a=aa o/\o.cls= .type "re.Pattern") (hT:T.length<=1000) (h:yo (bk code T.toArray 0 0 T.toArray.size false)):
  pV prog w A X I (.builtin "re.Pattern.search") [.raw (.ref a),.str (S T)] .none:=λs vs i lx r=>by
 refine nh (sN r) λv u T1 r1 r2=> ?_;obtain rfl:=T1
 subst r1
 obtain ⟨t,rfl⟩:=nt r2
 exact Ge (hI _ i).1 (by simp;exact (my (.i (.l xA xQ) (.l xA (.c 100000))) [_]) hT) (hI _ i).2 h ⟨mO _,Ce⟩
theorem pN (hz:ps.length+qs.length<=bn):n0 prog w A X (cf .Add) (.list ps) (.list qs) (.list (ps++qs)):=λs x y lx r q=>by
 refine ni (pD r) λl vs T1 z hl hr=> ?_;obtain rfl:=T1
 refine ni (pD q) λb ws T1 z hb hq=> ?_;obtain rfl:=T1
 have hsz:vs.length+ws.length<=bn:=by rw [hr.len,hq.len];exact hz
 obtain ⟨⟨cls,dd,data,sl⟩,ho,hc,n,hd⟩:=id hl
 obtain ⟨⟨cls2,dd2,data2,sl2⟩,ho2,hc2,n2,hd2⟩:=id hb
 simp only at hc hd hc2 hd2
 subst hc hd hc2 hd2
 have e:vs.toArray++ws.toArray=(vs++ws).toArray:=by simp
 refine concat_meets ⟨_,ho,rfl⟩ ⟨_,ho2,rfl⟩ noFill_list_add seq_list_add PySem.F.slot_list_add PySem.F.entry_list_add (PySem.F.args_list_add_2 _ _) (list_addW l b vs.toArray ws.toArray n n2 dd dd2 sl sl2 (by simpa using hsz)) ⟨ho,ho2,?_⟩
 rw [e]
 exact uG lx (hr.append hq)
theorem C1 {α:Type} (xs:Array α): ∀(n:Nat) (Ut:Array α),(List.foldl (λx1 x2=>x1++x2) Ut (aG n xs)).toList=Ut.toList++(aG n xs.toList).flatten
 |0,Ut=>by simp
 |n+1,Ut=>by
  rw [cq,eY,C1 xs n,cq,cu]
  simp
theorem Dt (r:mK X h ps vs): ∀n,mK X h (aG n ps).flatten (aG n vs).flatten
 |0=>mK.nil
 |n+1=>by rw [cq,cq,cu,cu];exact r.append (Dt r n)
end
section
variable {prog:aH} {w:av} {φ:Fs}
theorem uV (hs:tG prog w φ lp es ps) (he:Ev prog w φ e (.int k)) (hz:ps.length<=1000) (hn:ps≠[]) (hk: -(2^63:Int)<=k) (XI:k<=10000):
  Ev prog w φ (.BinOp (.List es lp) .Mult e pos) (.list (aG k.toNat ps).flatten):=.mk λs i=>by
 have Vv:=aw
 refine j6 (jB (ab (hs.run s i) (λvs T0 uu=>eA uu λT2 T5=>⟨by rw [T5.len];exact (my (.i (.l xA xQ) (.i (.e xB xL) (.l xA xB))) [_,_]) hz Vv,?_⟩) λz z e=>e))
 have kp:=mZ T0 {cls:=.type "list",data:=.seq vs.toArray} T0.toks
 have T9:=φ.mono' i (mH T2 kp)
 refine ab (he.run _ T9) (λb T3 uu=>eA uu λT4 Uh=> ?_) λz z e=>e
 refine eE (tB Uh) λu T1=> ?_;obtain rfl:=T1
 have ho:T3.heap.get? T0.heap.objs.size=aa {cls:=.type "list",dict:=az,data:=.seq vs.toArray 0,slots:= #[]}:=mG T4 _ _ (au _ rfl)
 have VR:=mH T2 (mH kp T4)
 have r₁':mK φ.X T3.heap ps vs:=T5.keep (mG (mH kp T4))
 have lx:=φ.live _ (φ.mono' i VR)
 have Vm:vs.toArray.size*k.toNat<=2^24:=by
  rw [bo,T5.len]
  have:ps.length*k.toNat<=1000*10000:=gq hz (by exact (my (.i (.L xA (.c 10000)) (.l (.t xA) (.c 10000))) [] [_]) XI)
  exact (my (.i (.l xA (.m 1000 (.c 10000))) (.l xA xL)) [_]) this
 refine wpAny_binaryOp_repeat_ref (T:="list") (U:="int") (by decide) ⟨_,ho,rfl⟩ (λs'=>typeIs_int s' k u) noFill_list_mul F.fills_int_mul F.slot_int_rmul repeat_list F.slot_int_index.lookup
  (gL F.slot_int_rmul (typeIs_int T3 k u) F.entry_int_rmul (F.args_int_rmul_2 _ _) (int___rmul___int_list k u _ vs.toArray 0)
   ⟨ho,rfl,⟨_,ho,rfl⟩,gL F.slot_list_mul ⟨_,ho,rfl⟩ F.entry_list_mul (F.args_list_mul_2 _ _)
    (AutoListH.list___mul___list_int_3 _ vs.toArray 0 k u (by simp [Builtin.List.listFitsIndex];exact (my (.i (.L (.g xS) xA) (.i (.L xA (.c 10000)) (.a (.L (.g xS) xA) (.B xA xS)))) [] [_]) hk XI) (by exact (my (.i (.l xA xL) (.n (.b (.d (.s xS xI) 8) xA))) [_]) Vm) (by simp [Builtin.List.listTooLong,bn];omega))
    ⟨ho,?_⟩⟩)
 have Uk:vs.toArray.isEmpty=false:=by
  cases vs with
  |nil=>have:=T5.len;cases ps with|nil=>exact absurd rfl hn|cons=>simp at this
  |cons=>rfl
 rw [Uk]
 have e:(List.foldl (λx1 x2=>x1++x2) #[] (aG (if false=ai then 0 else k.toNat) vs.toArray))=(aG k.toNat vs).flatten.toArray:=by
  apply dO.mp
  rw [C1]
  simp
 rw [e]
 have:=uG (s:=T3) (tk:=T3.toks) lx (Dt r₁' k.toNat)
 exact ⟨mH VR this.1,this.2⟩
end
section
variable {prog:aH} {w:av} {A:aX} {E:ay->aq->Prop} {s:aq} {env:Env}
theorem vr {T id:String} {Q:ay->aq->Prop}
  (hl:fu (.type T) "__getitem__"=bG (aa (.builtin id)))
  (h:aC (aI prog w) A (bJ value env) (λo T0=>aC (aI prog w) A (bJ (.Slice lower upper az p) env) (λi T3=>T3.TypeIs o T/\aC (aI prog w) A (getItem o i) Q E T3) E T0) E s):
  aC (aI prog w) A (bJ (.Subscript value (.Slice lower upper az p) pos) env) Q E s:=by
 rw [eval_Subscript]
 refine ae (ab h (λo T0 Ub=>ae (bL (ab Ub (λi T3 Uu=>ae (eD ?_)) λz z x=>x)))
  λz z x=>x)
 have qt:aC (aI prog w) A (operate [i,o] (getItem o i)) (λr Ua=>aC (aI prog w) A (i8 value o r >>= λz=>bG r) Q E Ua) E T3:=
  wpAny_operating (ab Uu.2 (λr Ua Uo=>ae (wpAny_letTemporaryGo (aj Uo))) λz z x=>x)
 first
  |(refine ae ?_
    rw [getitemInPython_of_ne Uu.1.not_modules]
    refine ae (fh Uu.1 hl ?_)
    first
     |exact aj (ae qt)
     |exact ae (aj (ae qt))
     |exact ae qt)
  |(refine ae (fh Uu.1 hl ?_)
    first
     |exact ae (aj (ae qt))
     |exact ae qt)
theorem DD {Q:ay->aq->Prop}
  (h:aC (aI prog w) A (bJ value env) (λo T0=>aC (aI prog w) A (evalPart lower env) (λvl T3=>aC (aI prog w) A (evalPart upper env) (λvu Ua=>
   ∃x t l u,o= .str x t/\vl=cK l/\vu=cK u/\
    (sliceMade x t l u az).post Q {Ua with heap:=Ua.heap.push {cls:=.type "slice",data:=.fields #[vl,vu,.none]}}) E T3) E T0) E s):
  aC (aI prog w) A (bJ (.Subscript value (.Slice lower upper az p) pos) env) Q E s:=by
 refine vr (T:="str") F.slot_str_getitem.lookup (ab h (λo T0 Ub=>j5 (ab Ub (λvl T3 Uu=>ab Uu (λvu Ua Uo=> ?_) λz z e=>e) λz z e=>e)) λz z e=>e)
 refine Ef Uo ?_;clear Uo;intro x t l u T1 q2z q3z hQ;obtain rfl:=T1;obtain rfl:=q2z;obtain rfl:=q3z
 rw [lr]
 exact aj ⟨dR _ x t,wpAny_getItem_str_slice (l:=l) (u:=u) (st:=az) ⟨_,au _ rfl,rfl,rfl⟩ rfl hQ⟩
end
section
variable {prog:aH} {w:av} {φ:Fs} {A:aX} {X:List aF} {I:aW->Prop}
theorem tQ {lo hi:Option Int} (hv:Ev prog w φ value (.str (S l))) (hl:yV prog w φ lower lo) (hu:yV prog w φ upper hi)
  (hsz:l.length<=bn):Ev prog w φ (.Subscript value (.Slice lower upper az p) pos) (.str (S (qY l lo hi))):=.mk λs i=>by
 refine DD (ab (hv.run s i) (λv T0 uu=>eA uu λT2 T5=>ab (hl.run T0 (φ.mono' i T2)) (λvl T3 uu=>oV uu λT4 lt e2 V3=>ab (hu.run T3 (φ.mono' i (mH T2 T4))) (λvu Ua uu=>oV uu λUc ut e3 Xr=> ?_) λz z e=>e) λz z e=>e) λz z e=>e)
 refine eE (nt T5) λt T1=> ?_;obtain rfl:=T1
 have kk:=mH T2 (mH T4 Uc)
 refine ⟨S l,t,lt,ut,rfl,e2,e3,?_⟩
 refine post_val_or_str ⟨ch (Txt.slice_le (S l) _ _) (by rw [mW];exact hsz),λt' k=> ?_⟩
 have e:Txt.slice (S l) (lt.map (·.1)) (ut.map (·.1))=S (qY l lo hi):=by rw [V3,Xr,Dy]
 refine ⟨mH kk (mZ _ _ k),?_⟩
 show mP _ _ (.str (S (qY l lo hi))) (.str (Txt.slice (S l) (lt.map (·.1)) (ut.map (·.1))) t')
 rw [e];exact oh
theorem tA {lo hi:Option Int} (hv:Ev prog w φ value (.list ps)) (hl:yV prog w φ lower lo) (hu:yV prog w φ upper hi)
  (hsz:ps.length<=bn):Ev prog w φ (.Subscript value (.Slice lower upper az p) pos) (.list (qY ps lo hi)):=.mk λs i=>by
 refine vr (T:="list") fP.lookup (ab (hv.run s i) (λv T0 uu=>eA uu λT2 T5=>j5 (ab (hl.run T0 (φ.mono' i T2)) (λvl T3 uu=>oV uu λT4 lt e2 V3=>ab (hu.run T3 (φ.mono' i (mH T2 T4))) (λvu Ua uu=>oV uu λUc ut e3 Xr=> ?_) λz z e=>e) λz z e=>e)) λz z e=>e)
 subst e2 e3
 rw [lr]
 refine aj ?_
 refine ni (pD T5) λa vs T1 ha We hr=> ?_;obtain rfl:=T1
 have kk:=mH T2 (mH T4 Uc)
 have Ux:=mH (mH T4 Uc) (mZ Ua {cls:=.type "slice",data:=.fields #[cK lt,cK ut,.none]} Ua.toks)
 have hl4:=We.at λo e=>mG Ux _ _ e
 refine ⟨hl4.typeIs,?_⟩
 refine g5 hl4 (gQ _ _ _ _) (xa V3) (xa Xr) .none (by decide) ?_ (by rw [bo,hr.len];exact hsz)
 have lx:=φ.live _ (φ.mono' i (mH kk (mZ Ua {cls:=.type "slice",data:=.fields #[cK lt,cK ut,.none]} Ua.toks)))
 rw [yy]
 have:=uG (s:={Ua with heap:=Ua.heap.push {cls:=.type "slice",data:=.fields #[cK lt,cK ut,.none]}}) (tk:=Ua.toks) lx ((mK.keep (mG Ux) hr).cut lo hi)
 exact ⟨mH T2 (mH Ux this.1),this.2⟩
end
section
variable {prog:aH} {w:av} {c:Sc} {σ:mX} {Λ:List (aF×List PV)}
theorem In.groundX (i:In c σ Λ h): ∀b,b∈c.X->(∃o,c.g.get? b=aa o)->b∈c.X0:=λb hb uu=>eE uu λo e=>by
 rcases ar.mp hb with q|q
 ·have:=i.fresh b q;rw [this] at e;exact nE e
 ·exact q
theorem t9 (he:Ev prog w (fs c σ Λ) iter (.raw (.ref a))) (hl:c.g.IsList a vs.toArray) (hr:mK c.X0 c.g ps vs) (hh:c.A.handled=az)
  (ht:(∃x px,T8= .Name x px)\/((∃Vd k pos,T8= .Tuple Vd k pos)/\ ∀p∈ps,∃l,p= .tup l)) (ho: ∀b∈own,b∈c.own):uy prog w c σ Λ own T8 iter ps:=.mk λs i=>by
 refine ab (he.run s i) (λx T0 uu=>eA uu λT2 T5=> ?_) λz z e=>e
 subst T5
 have T9:=i.mono (mG T2)
 have hn:a∉own:=λq=>by
  obtain ⟨o,e,_⟩:=hl
  have:=i.fresh a (ho a q)
  rw [this] at e;exact nE e
 have hl:T0.heap.IsList a vs.toArray:=hl.at λo e=>T9.keep _ _ e
 have hr:mK c.X T0.heap ps vs:=(hr.sub (i.groundX)).keep T9.keep
 have hoX: ∀b∈own,b∈c.X:=λb hb=>ax _ (ho b hb)
 refine mR (id hl) λo e1 e2=> ?_
 have ne:a≠T0.heap.objs.size:=dj (aR e1)
 have T4:=mZ T0 {cls:=.type "list_iterator",data:=.fields #[.ref a,.int 0 0]} T0.toks
 have ga:(hideAll T0.heap own).get? a=aa o:=bS _ e1 hn
 refine wpAny_pyIter_list hl ⟨T0,_,[T0.heap.objs.size],_,rfl,t6 (Walks.list hh T0.heap.objs.size a ne vs.toArray) (λz h=>h) (λb hb=> ?_) (λb hb=> ?_) (λi h st b hb=> ?_) ?_ (λj p v h Y e1 e2 k hY=> ?_) (λj p v s Q E hj hv st q=> ?_),⟨⟨⟨_,au _ rfl,rfl,rfl⟩,hl.at λo e=>mG T4 _ _ e⟩,?_⟩,T2,T4,λb hb=> ?_⟩
 ·simp at hb
  rcases hb with rfl|rfl
  ·exact .inl (.head _)
  ·exact .inr ⟨o,ga⟩
 ·rw [ak.mp hb];exact ph (nF _)
 ·rw [ak.mp hb];exact qL st.1
 ·rw [bo,hr.len]
 ·exact mP.keep k ((hr.get' e1 e2 |>.keepX (so hoX)).sub hY)
 ·rcases ht with ⟨x,px,rfl⟩|⟨⟨Vd,ek,pos,rfl⟩,hp⟩
  ·exact bD (rfl:cS (.Name x px) _ v=bG ()) q
  ·refine eE (hp p (br hj)) λl T1=> ?_;obtain rfl:=T1
   have:=hr.get' hj hv
   refine oU this ?_;clear this;intro T _ T1 _;obtain rfl:=T1
   exact jW st.1 q
 ·exact λb o e=>mG T4 _ _ (bU _ e)
 ·rw [ak.mp hb];exact nF _
theorem ME (hv:Ev prog w (fs c σ Λ) value (.raw (.ref a))) (hl:c.g.IsList a vs.toArray) (hr:mK c.X0 c.g ps vs)
  (hsz:ps.length<=bn):Ev prog w (fs c σ Λ) (.Subscript value (.Slice az az az p) pos) (.list ps):=.mk λs i=>by
 refine vr (T:="list") fP.lookup (ab (hv.run s i) (λv T0 uu=>eA uu λT2 T5=>j5 ?_) λz z e=>e)
 subst T5
 have T9:=i.mono (mG T2)
 have We:=hl.at λo e=>T9.keep _ _ e
 have WE:mK c.X T0.heap ps vs:=(hr.sub (i.groundX)).keep T9.keep
 rw [lr]
 refine aj (aj (aj ?_))
 have Ux:=mZ T0 {cls:=.type "slice",data:=.fields #[.none,.none,.none]} T0.toks
 have hl4:=We.at λo e=>mG Ux _ _ e
 refine ⟨hl4.typeIs,?_⟩
 refine g5 hl4 (gQ _ _ _ _) .none .none .none (by decide) ?_ (by rw [bo,WE.len];exact hsz)
 have lx:=(T9.mono (mG Ux)).liveAll
 rw [yy,QW]
 have:=uG (s:={T0 with heap:=T0.heap.push {cls:=.type "slice",data:=.fields #[.none,.none,.none]}}) (tk:=T0.toks) lx (WE.keep (mG Ux))
 exact ⟨mH T2 (mH Ux this.1),this.2⟩
end
end
section
open PySem.Calls PyProof.Rows PySem.Builtin.Str
abbrev HP:=List (List Nat×List Nat)
def hp (l:HP):List PV:=l.map λq=>.tup [.str (S q.1),.str (S q.2)]
def r5 (l:HP) (X:List aF) (h:aW) (a:aF):Prop:=uj X h a (hp l)
theorem r5.at' (t:r5 l X h a): ∃d D,oO h a d D:=let ⟨d,D,_,x,_⟩:=t;⟨d,D,x⟩
section
variable {w:av} {c:Sc} {σ:mX} {Λ:List (aF×List PV)}
theorem Bb (he:Ev mu w (fs c σ Λ) o (.raw (.ref a))) (hH:r5 l c.X0 c.g a):tJ mu w (fs c σ Λ) o (r5 l c.X):=.mk λs i=>
 ab (he.run s i) (λv T0 uu=>eA uu λT2 T5=>by
  subst T5
  have T9:=i.mono (mG T2)
  exact ⟨T2,a,rfl,uj.keep (uj.sub hH T9.groundX) T9.keep⟩) λz z e=>e
theorem ty (he:Ev mu w (fs c σ Λ) o (.hdr (hp l))):tJ mu w (fs c σ Λ) o (r5 l c.X):=.mk λs i=>
 ab (he.run s i) (λv T0 uu=>eA uu λT2 T5=>by
  refine z5 T5 ?_;clear T5;intro a d L vs T1 _ _ _ t tl r;obtain rfl:=T1
  exact ⟨T2,a,rfl,d,L,vs,t,tl,r⟩) λz z e=>e
theorem sE (he:Ev mu w (fs c σ Λ) o (.inst D)) (hD:(D,hp l)∈Λ):tJ mu w (fs c σ Λ) o (r5 l c.X):=.mk λs i=>
 ab (he.run s i) (λv T0 uu=>eA uu λT2 T5=>by
  refine ni T5 ?_;clear T5;intro a d T1 _ _ t;obtain rfl:=T1
  obtain ⟨_,vs,⟨n,pl⟩,rs⟩:=(i.mono (mG T2)).lists _ hD
  exact ⟨T2,a,rfl,d,D,vs,t,⟨_,pl,rfl,_,rfl⟩,rs⟩) λz z e=>e
theorem Bd (G:Gd w n c)
  (ho:tJ mu w (fs c σ Λ) o (r5 l c.X)) (hs:uM w n f (r5 l) ps ks q)
  (hf:iV (KB w.params) (.ref 293) name=aa (aa (.ref f))) (Wg:(KB w.params).lookup f=aa ⟨oc,od,.func fd,sl⟩) (hn:(name==("_headers":Str))=false) (VA:lY (KB w.params) (.ref f)=aa (.type "function"))
  (ha:tG mu w (fs c σ Λ) pos (e::es) ps) (hk:Fc mu w (fs c σ Λ) pos Ve ks)
  (V1:autoParam (bJ (.Call (.Attribute o name apos) (e::es) Ve pos) c.env=(do
   let ov <-bJ o c.env
   iv apos.atName
   let (f,first) <-gU [ov] (hZ ov name pl)
   gI pos f first (fb pos (aE (e::es) c.env)) (cM pos (bR Ve c.env)))) XZ)
  (he:autoParam (aE (e::es) c.env=(false,bJ e c.env)::aE es c.env) XZ):
  Ev mu w (fs c σ Λ) (.Call (.Attribute o name apos) (e::es) Ve pos) q:=.mk λs i=>
 (Nc G ho (λz z t=>r5.at' t) (λz z z t k=>uj.keep t k) hf Wg hn VA ha hk (λa=>hs c.A c.X _ a G.room (λh i=>G.inBase h i.1) (G.offX i) (λh i=>i.2)) V1 he).run s i
theorem w7 (G:Gd w n c)
  (ho:tJ mu w (fs c σ Λ) o (r5 l c.X)) (hs:uM w n f (r5 l) [] [] q)
  (hf:iV (KB w.params) (.ref 293) name=aa (aa (.ref f))) (Wg:(KB w.params).lookup f=aa ⟨oc,od,.func fd,sl⟩) (hn:(name==("_headers":Str))=false) (VA:lY (KB w.params) (.ref f)=aa (.type "function"))
  (V1:autoParam (bJ (.Call (.Attribute o name apos) [] [] pos) c.env=(do
   let ov <-bJ o c.env
   iv apos.atName
   let (f,first) <-gU [ov] (hZ ov name pl)
   gI pos f first (fb pos (aE [] c.env)) (cM pos (bR [] c.env)))) XZ):
  Ev mu w (fs c σ Λ) (.Call (.Attribute o name apos) [] [] pos) q:=.mk λs i=>
 (Q2 G ho (λz z t=>r5.at' t) (λz z z t k=>uj.keep t k) hf Wg hn VA (λa=>hs c.A c.X _ a G.room (λh i=>G.inBase h i.1) (G.offX i) (λh i=>i.2)) V1).run s i
theorem BJ (h:σ.lookup x=aa p) (hk:c.env.kindOf x=az):mT prog w c.env c.A (In c σ Λ) b J:=.mk λs i=>by
 rcases i.kinds x p h with q|q|q
 ·rw [hk] at q;exact nE q
 ·rw [hk] at q;exact nE q
 ·rw [hk] at q;exact nE q.1
theorem Mc {J:hF->aW->Prop} (he:Ev prog w (fs c σ Λ) e p) (hg:mU g c.g) (hY: ∀a∈Y,a∈c.X):
  mT prog w c.env c.A (In c σ Λ) (.Return (aa e) pos::b) (λfl h=>((fl= .next\/fl= .cont)/\J fl h)\/((∃v,fl= .ret v)/\ux g Y p fl h)):=sX (G4 he hg hY) (λz h=>h) λz z h=>.inr h
end
theorem tU: ∀(names:List (Str×kD)) (n:Nat) (z:Str×aF),z∈bu n names []->n<=z.2
 |[],n,z,h=>by cases h
 |(x,k)::r,n,z,h=>by
  unfold bu at h
  split at h
  ·rw [pZ] at h
   rcases ar.mp h with q|q
   ·exact Nat.le_of_succ_le (tU r (n+1) z q)
   ·exact (ak.mp q)▸(aN _)
  ·exact tU r n z h
theorem tR: ∀(names:List (Str×kD)) (n:Nat) (x y:Str) (a:aF),(x,a)∈bu n names []->(y,a)∈bu n names []->x=y
 |[],n,x,y,a,h,_=>by cases h
 |(v,k)::r,n,x,y,a,h,h'=>by
  unfold bu at h h'
  split at h
  ·rename_i hk
   rw [if_pos hk] at h'
   rw [pZ] at h h'
   rcases ar.mp h with q|q
   ·rcases ar.mp h' with q'|q'
    ·exact tR r (n+1) x y a q q'
    ·have e:=ak.mp q'
     have:=tU r (n+1) _ q
     cases e
     exact absurd this (lD _)
   ·have e:=ak.mp q
    cases e
    rcases ar.mp h' with q'|q'
    ·have:=tU r (n+1) _ q'
     exact absurd this (lD _)
    ·cases ak.mp q';rfl
  ·rename_i hk
   rw [if_neg hk] at h'
   exact tR r n x y a h h'
theorem uY (hc:fd.closure=[]) (hk:fd.scope.names.lookup x=aa .cell) (hb:(bu (L+1) fd.scope.names []).lookup x=aa b):n8 (mV fd a A X M g L) x b where
 kind:=hk
 at':=hb
 own:=.tail _ (ax _ (pB.mpr ⟨x,hb⟩))
 only:=λy e=>by
  have e:(bu (L+1) fd.scope.names []).lookup y=aa b:=e
  exact tR _ _ _ _ _ (mem_of_lookup e) (mem_of_lookup hb)
theorem n8.of (h:n8 c x a) (he:c'.env=c.env) (ho: ∀b∈c.own,b∈c'.own):n8 c' x a:=⟨he▸h.kind,he▸h.at',ho _ h.own,λy e=>h.only y (he▸e)⟩
end
section
open PySem.Calls PyProof.Rows PySem.Builtin.Str PySem.Builtin PySem.Builtin.ObjectAttr
theorem KS (P:aQ):plainOver (KB P) 293=ai:=by kernel_rfl
theorem Mf (P:aQ):takerIn (KB P) 293 "_headers"=aa az:=by kernel_rfl
theorem RX (P:aQ):iV (KB P) (.ref 293) "__setattr__"=aa (aa (.builtin "object.__setattr__")):=by kernel_rfl
noncomputable def t7 (h:Int) (t:Tok) (v:ay):Obj:={cls:=.type "dict",data:=.dict #[⟨h,.str "_headers" t,v⟩] 1}
theorem G0 (h:Int) (t:Tok) (v:ay):Obj.putName "_headers" h (.str "_headers" t) v cA=t7 h t v:=by
 rw [Obj.putName_eq]
 unfold Obj.putNameByArray t7 cA
 dsimp only
 rw [Array.findIdx?_empty]
 rfl
theorem L9 (h:Int) (t:Tok) (v:ay):gm "_headers" (t7 h t v)=aa (aa v):=by
 unfold gm t7
 dsimp only
 rw [List.find?_cons_of_pos (p:=λx:je=>x.key.isStr (aS "_headers")) (l:=[]) (a:=⟨h,.str "_headers" t,v⟩) (show (aS "_headers"==aS "_headers")=ai by decide+kernel)]
theorem JZ (h:Int) (t:Tok) (v:ay) (n:Str) (hn:(n==("_headers":Str))=false):gm n (t7 h t v)=aa az:=by
 have e:(ay.str "_headers" t).isStr n=false:=by
  show ((aS "_headers")==n)=false
  rw [beq_eq_false_iff_ne] at hn ⊢
  exact λq=>hn q.symm
 unfold gm t7
 dsimp only
 rw [List.find?_cons_of_neg (by rw [e];exact dz),List.find?_nil]
 rfl
section
variable {prog:aH} {w:av} {A:aX} {E:ay->aq->Prop} {s:aq}
theorem Gl {Q:Unit->aq->Prop} (X:(KB w.params).In s.heap) (hx:s.heap.get? x=aa (fZ 293 dx)) (hd:s.heap.get? dx=aa cA)
  (h: ∀h' tk t,cL dx s.heap h'->h'.get? dx=aa (t7 (g7 w.params "_headers") t v)->Q () {s with heap:=h',toks:=tk}):aC (aI prog w) A (setAttr (.ref x) "_headers" v) Q E s:=by
 obtain ⟨hp,g,d,tk0,os⟩:=s
 have I: ∀tk,InstAt (⟨hp,g,d,tk,os⟩:aq).heap x (fZ 293 dx) 293 (aa cA):=λz=>⟨hx,rfl,rfl,hd⟩
 refine set_plain X (I tk0) (RX _) ?_
 refine osa_open (s:=⟨hp,g,d,tk0+1,os⟩) X (I (tk0+1)) (KS _) (Mf _) λb=> ?_
 refine mR (any_some (Hl w.params)) λcd hc hd'=> ?_
 refine ae (aj (ae (ae (kH hx (ae ((looks_clsIn X hc).at ?_))))))
 rw [hd']
 refine aj (a:=aa dx) (ae (aj (ae ?_)))
 refine ae (ae (wpAny_askSetting (aj (ae (wpAny_mkText (ae (kH hd ?_)))))))
 dsimp only
 rw [aRefKeyMayBeTheName_at]
 refine gY (by simp) ?_
 refine wpAny_updatePart hd ?_
 have WO:(hp.update dx (Obj.putName "_headers" (g7 w.params "_headers") (.str "_headers" (tk0+1)) v)).get? dx=aa (t7 (g7 w.params "_headers") (tk0+1) v):=by
  rw [cr _ hd (by rw [G0];rfl),G0]
 refine ae (wpAny_lookBehind WO (pastItsLine_dict (by rw [aw];simp)) ?_)
 exact aj (h _ _ _ (ef ..) WO)
end
end
section
open PySem.Calls PyProof.Rows PySem.Builtin.Str
theorem CF:n0 prog w A X (bP .IsNot) .none .none (.bool false):=λs x y z r q=>by
 subst r;subst q
 exact wpAny_isNot_self rfl ⟨mO _,uJ⟩
section
variable {prog:aH} {w:av} {c:Sc} {σ:mX} {Λ:List (aF×List PV)}
theorem In.restore (i:In c σ Λ h) (hX:dx∈c.X0) (hO:dx∉c.own) (nc: ∀o,h.get? dx=aa o-> ∀v,o.data≠ .cell v) (k:oH [dx] h h') (lv: ∃o,h'.get? dx=aa o):In (c.at (hideAll h' c.own)) σ Λ h':=by
 have i0:In (c.at (hideAll h (dx::c.own))) σ Λ h:=i.reg (λb o e=>bU _ e) λa ha=>dK _ (.tail _ ha)
 have i1:=In.turn (is:=[dx]) i0 (λa ha=>by rw [ak.mp ha];exact ⟨hX,hO,dK _ (.head _),nc⟩) k (λa ha=>by rw [ak.mp ha];exact lv)
 exact In.reg (c:=c.at (hideAll h (dx::c.own))) i1 (λb o e=>bU _ e) λa ha=>dK _ ha
theorem Fd (he:Ev prog w (fs c σ Λ) e p) (hb:mT prog w c.env c.A (In c σ Λ) b J)
  (hi:autoParam (i6 c.env=false) XZ) (hs:autoParam (cJ e az pos.line c.env=bG false) XZ):mT prog w c.env c.A (In c σ Λ) (.Expr e pos::b) J:=
 qT (I':=In c σ Λ) (λs i=>fM (ab (he.run s i) (λv T0 uu=>eA uu λT2 z=>⟨nB.of T2,i.mono (mG T2)⟩) λz z e=>e) hi hs) hb
theorem Ga (G:Gd w n c) (ho:Ev prog w (fs c σ Λ) o (.raw (.ref x))) (he:Ev prog w (fs c σ Λ) e (.raw (.ref D)))
  (hx:c.g.get? x=aa (fZ 293 dx)) (hd:c.g.get? dx=aa cA) (hX:dx∈c.X0) (VU:dx≠iZ) (Wz:dx≠dh)
  (hb: ∀g',oH [dx] c.g g'->oO g' x dx D->oi w.params g'->mT prog w (c.at g').env (c.at g').A (In (c.at g') σ Λ) b J)
  (hs:autoParam (cJ e (aa (.Attribute o "_headers" ap)) pos.line c.env=bG false) XZ):mT prog w c.env c.A (In c σ Λ) (.Assign [.Attribute o "_headers" ap] e pos::b) J:=.mk λs i=>by
 rw [ci]
 refine ae (plainObj_wpAny_Assign_Attribute (ab (he.run s i) (λv T0 uu=>eA uu λT2 T5=> ?_) λz z e=>e) hs)
 subst T5
 have T9:=i.mono (mG T2)
 refine ab (ho.run T0 T9) (λv T3 uu=>eA uu λT4 Uh=> ?_) λz z e=>e
 subst Uh
 have T7:=T9.mono (mG T4)
 have hx₂:=T7.keep _ _ hx
 have WY:=T7.keep _ _ hd
 have hO:dx∉c.own:=λq=>by have:=i.fresh dx q;rw [hd] at this;exact tD this
 have Uk:x≠dx:=λq=>by rw [q,hd] at hx;cases hx
 refine Gl (G.inBase _ T7).frag hx₂ WY λh' tk t XC Wp=> ?_
 have kx:oH [dx] T3.heap h':=λb o nb e=>by rw [XC.2 b (λq=>nb (by rw [q];exact .head _))];exact e
 have Ui:=T7.restore hX hO (λo e v q=>by rw [WY] at e;obtain rfl:=am e;cases q) kx ⟨_,Wp⟩
 have kg:oH [dx] c.g (hideAll h' c.own):=λb o nb e=>bS _ (kx b o nb (T7.keep b o e)) λq=>by have:=i.fresh b q;rw [e] at this;exact tD this
 have xO:x∉c.own:=λq=>by have:=i.fresh x q;rw [hx] at this;exact tD this
 have t:oO (hideAll h' c.own) x dx D:=⟨kg x _ (λq=>Uk (ak.mp q)) hx,_,bS _ Wp hO,L9 _ _ _,λn hn=>JZ _ _ _ n hn⟩
 have off: ∀b∈[dx],(KB w.params).lookup b=az:=λb hb=>by rw [ak.mp hb];exact G.off dx hX
 have base:oi w.params (hideAll h' c.own):=by
  have B:=G.base
  refine ⟨λb o e=>kg b o (λq=>by have:=off b q;rw [e] at this;exact tD this) (B.frag b o e),?_,?_⟩
  ·exact B.lim.at λo e=>kg _ _ (λq=>VU (ak.mp q).symm) e
  ·refine mR B.blt λmb n r=> ?_
   exact ⟨mb,n.at' λo e=>kg _ _ (λq=>Wz (ak.mp q).symm) e,r⟩
 refine ab ((hb _ kg t base).run {T3 with heap:=h',toks:=tk} Ui) (λfl Ua uu=>eA uu λUL j=>⟨((nB.of (mH T2 T4)).trans (nB.trans ⟨_,_,rfl⟩ UL)),j⟩) λz z e=>e
theorem DE (ht:Tr prog w (fs c σ Λ) t false)
  (hb: ∀D g',mU c.g g'->c.g.get? D=az->g'.get? D=aa {cls:=.type "list",data:=.seq #[]}->D∉c.X->mT prog w (c.at g').env (c.at g').A (In (c.at g') ((x,.raw (.ref D))::σ) Λ) b J)
  (hx:autoParam (sA c x) XJ) (hk:autoParam (c.env.scope.kind= .function) XZ) (hs:autoParam (cJ (.IfExp t y (.List [] lp) ip) (aa (.Name x px)) pos.line c.env=bG false) XZ):
  mT prog w c.env c.A (In c σ Λ) (.Assign [.Name x px] (.IfExp t y (.List [] lp) ip) pos::b) J:=.mk λs i=>by
 rw [ci]
 refine ae (cN (wpAny_IfExp (ab (ht.run s i) (λd T0 uu=>eA uu λT2 e=> ?_) λz z e=>e)) hs)
 subst e
 refine jB (cF ⟨by decide,?_⟩)
 have T9:=i.mono (mG T2)
 have T4:=mZ T0 {cls:=.type "list",data:=.seq #[]} T0.toks
 have T7:=T9.mono (mG T4)
 have hn:T0.heap.objs.size∉c.X:=oP T9.liveAll
 refine ab (rC (s:={T0 with heap:=T0.heap.push {cls:=.type "list",data:=.seq #[]}}) (p:=.raw (.ref T0.heap.objs.size)) T7 hx o9 hk) (λz Ua uu=>rQ uu λUL Ui kx=> ?_) λz z e=>e
 have hm:(hideAll Ua.heap c.own).get? T0.heap.objs.size=aa {cls:=.type "list",data:=.seq #[]}:=
  bS _ (kx _ _ (λq=>hn (ax _ q)) (au _ rfl)) λq=>hn (ax _ q)
 have gn:c.g.get? T0.heap.objs.size=az:=by
  cases e:c.g.get? T0.heap.objs.size with
  |none=>rfl
  |some o=>have:=T9.keep _ _ e;rw [nF] at this;exact nE this
 exact ab ((hb _ _ (wF Ui) gn hm hn).run Ua Ui.hide) (λfl Um uu=>eA uu λVq j=>⟨(nB.of T2).trans ((nB.of T4).trans (UL.trans Vq)),j⟩) λz z e=>e
theorem pt.in1 (r:pt (n+1) A):pt n A.in1:=by
 obtain ⟨a,b,e⟩:=r
 refine ⟨a,?_,?_⟩
 ·exact (my (.i (.b (.a xA (.a xB xI)) xC) (.b (.a xA xB) xC)) [_,_,_]) b
 ·exact (my (.i (.b (.a (.a xA (.m 10 (.a xB xI))) xP) xC) (.b (.a (.a (.a xA xI) (.m 10 xB)) xP) xC)) [_,_,_]) e
theorem pt.make (r:pt (n+1) A) (C:aF) (VX:List ay):pt n (A.under (.builtin "type.__call__" ⟨.ref C::VX,[]⟩)):=by
 refine rQ r λa b e=> ?_
 refine ⟨a,?_,?_⟩
 ·rw [depth_under_make];exact (my (.i (.b (.a xA (.a xB xI)) xC) (.b (.a (.a xA xI) xB) xC)) [_,_,_]) b
 ·rw [units_under_make];exact (my (.i (.b (.a (.a xA (.m 10 (.a xB xI))) xP) xC) (.b (.a (.a (.a xA xI) (.m 10 xB)) xP) xC)) [_,_,_]) e
end
theorem ww {h:aW} (e:h.get? d=aa cA):h.DictAt (strKind prog w) d [] 0:=
 ⟨_,#[],e,⟨rfl,rfl,rfl⟩,rfl,λe he=>by simp at he,.nil,by decide⟩
section
variable {prog:aH} {w:av} {c:Sc} {σ:mX} {Λ:List (aF×List PV)}
theorem J1 (he: ∀s:aq,In c σ Λ s.heap->aC (aI prog w) c.A (bJ iter c.env) (λv s'=>bB s s'/\ ∃vw,v= .ref vw/\s'.heap.IsItemsView vw d) (λz z=>False) s)
  (hd:c.g.get? d=aa cA) (hh:c.A.handled=az) (ho: ∀b∈own,b∈c.own):uy prog w c σ Λ own T8 iter []:=.mk λs i=>by
 refine ab (he s i) (λx T0 uu=>oV uu λT2 vw ex hv=> ?_) λz z e=>e
 subst ex
 have T9:=i.mono (mG T2)
 have hd1:=T9.keep _ _ hd
 have hn:d∉own:=λq=>by have:=i.fresh d (ho d q);rw [hd] at this;exact tD this
 have ga:(hideAll T0.heap own).get? d=aa cA:=bS _ hd1 hn
 have one: ∀b∈[T0.heap.objs.size],b=T0.heap.objs.size:=λb hb=>ak.mp hb
 refine wpAny_pyIter_items (knd:=strKind prog w) (kvs:=[]) hv (ww hd1) ?_
 have T4:=mZ T0 {cls:=.type "dict_itemiterator",data:=.fields #[.none,.bool false,.ref d,.int 0 0,.int 0 0,.int 0 0,.none,.none]} T0.toks
 refine ⟨T0,T0.heap.objs.size,[T0.heap.objs.size],(λi h=>IsItemIter h T0.heap.objs.size d 0 0 0 .none .none/\mU (hideAll T0.heap own) h),rfl,⟨λi p s Y hi=>by simp at hi,λs st=> ?_,λi h h' st k ki=>⟨ki _ (.head _) _ st.1,k⟩,λi h st=>st.2,λi s Q E st q=> ?_,λi h st a ha=> ?_⟩,⟨au _ rfl,λb o e=>mG T4 _ _ (bU _ e)⟩,T2,T4,λb hb=> ?_⟩
 ·refine wpAny_pyNext_items_end (knd:=strKind prog w) (kvs:=[]) hh st.1 (ww (st.2 _ _ ga)) rfl λh' hx=>⟨rfl,⟨_,_,rfl⟩,λb o nb e=>hx b o (λq=>nb (by exact q▸(.head _))) e⟩
 ·exact kcp_self st.1 q
 ·exact (one a ha)▸(⟨_,st.1,λv q=>nomatch q⟩)
 ·exact (one b hb)▸(nF _)
theorem Lj (ho:Ev prog w (fs c σ Λ) o (.raw (.ref d))) (hd:c.g.get? d=aa cA) (hs:(d==sysModules)=false)
  (Uq:autoParam (db o "items" c.env (bJ o c.env)=bJ o c.env) XZ) (Uv:autoParam ((apos.endLine==pos.line)=ai) XZ):
  ∀s:aq,In c σ Λ s.heap->aC (aI prog w) c.A (bJ (.Call (.Attribute o "items" apos) [] [] pos) c.env) (λv s'=>bB s s'/\ ∃vw,v= .ref vw/\s'.heap.IsItemsView vw d) (λz z=>False) s:=λs i=>
 dN Uq rfl Uv PySem.F.plainAttrs_dict PySem.F.slot_dict_items PySem.F.type_dict_items (ab (ho.run s i) (λov T0 uu=>eA uu λT2 T5=>by
  subst T5
  have hd1:=(i.mono (mG T2)).keep _ _ hd
  refine ⟨⟨_,hd1,rfl⟩,λa e=>by cases e;exact ⟨_,hd1,rfl⟩,nI (wp ⟨rj,?_⟩)⟩
  exact call_meetsIn PySem.F.slot_dict_items (s:=T0) ⟨_,hd1,rfl⟩ PySem.F.entry_dict_items (PySem.F.args_dict_items_1 _) (meets_dict_items (strKind prog w) d hs)
   ⟨⟨[],(ww hd1).dictOf⟩,mH T2 (mZ T0 _ T0.toks),_,rfl,_,au _ rfl,rfl,rfl⟩) λz z e=>e)
theorem In.pushX (i:In c σ ((D,l)::Λ) h) (k:oH [D] h h') (pl: ∃vs,h'.PlainList D vs.toArray/\mK c.X h' l' vs) (Uk: ∀q∈Λ,q.1≠D):In c σ ((D,l')::Λ) h':=by
 refine oV (i.lists _ (.head _)) λhD vs0 pl0 rs0=> ?_
 refine mR pl λvs VG rs=> ?_
 have k1: ∀b o,b≠D->h.get? b=aa o->h'.get? b=aa o:=λb o nb e=>k b o (λq=>nb (ak.mp q)) e
 have kx:oH c.X h h':=λb o nb e=>k1 b o (λq=>nb (q▸ax _ hD)) e
 have lv: ∀a,(∃o,h.get? a=aa o)-> ∃o,h'.get? a=aa o:=λa uu=>eE uu λo e=>by
  by_cases q:a=D
  ·subst q;obtain ⟨_,e⟩:=VG;exact ⟨_,e⟩
  ·exact ⟨o,k1 a o q e⟩
 refine ⟨λb o e=> ?_,i.fresh,λa ha=>lv a (i.live a ha),λa ha=>lv a (i.liveX a ha),i.locOwn,?_,λy q hk e=> ?_,λy a e=> ?_,i.kinds,λq hq=> ?_⟩
 ·exact k1 b o (λq=>by have:=i.fresh _ hD;rw [<-q,e] at this;exact tD this) (i.keep _ _ e)
 ·refine mR i.loc λm n hm=> ?_
  exact ⟨m,n.at' λo e=>k1 _ o (sM pl0 n).symm e,λy q hk e=>let ⟨u,e',r'⟩:=hm y q hk e;⟨u,e',r'.keepX kx⟩⟩
 ·obtain ⟨a,u,q1,⟨o,q2,q2'⟩,q3⟩:=i.cel y q hk e
  exact ⟨a,u,q1,⟨o,k1 _ _ (qG pl0 ⟨o,q2,q2'⟩).symm q2,q2'⟩,q3.keepX kx⟩
 ·refine oU (i.cob y a e) λu o q2 q2'=> ?_
  exact ⟨u,o,k1 _ _ (qG pl0 ⟨o,q2,q2'⟩).symm q2,q2'⟩
 ·rcases ao.mp hq with e|e
  ·subst e;exact ⟨hD,vs,VG,rs⟩
  ·obtain ⟨a,us,⟨n,b⟩,r'⟩:=i.lists q (.tail _ e)
   exact ⟨a,us,⟨n,k1 _ _ (Uk q e) b⟩,r'.keepX kx⟩
theorem Gc (ho:Ev prog w (fs c σ ((D,l)::Λ)) o (.raw (.ref D))) (he:Ev prog w (fs c σ ((D,l)::Λ)) e p) (hsz:l.length<=bn) (Uk: ∀q∈Λ,q.1≠D)
  (hb:mT prog w c.env c.A (In c σ ((D,l++[p])::Λ)) b J)
  (hi:autoParam (i6 c.env=false) XZ) (hs:autoParam (cJ (.Call (.Attribute o ("append":Str) apos) [e] [] pos) az Vi.line c.env=bG false) XZ)
  (Uq:autoParam (db o ("append":Str) c.env (bJ o c.env)=bJ o c.env) XZ)
  (U1:autoParam (((fb pos (aE [e] c.env)).all (λx=> !x.1)&&(cM pos (bR [] c.env)).all (λx=>x.1.isSome)
   &&decide ([e].length+([]:List eW).length+(if ([]:List eW).isEmpty then 0 else 1)<30))=ai) XZ)
  (Uv:autoParam ((apos.endLine==pos.line)=ai) XZ) (UT:autoParam (aE [e] c.env=(false,bJ e c.env)::aE [] c.env) XZ):
  mT prog w c.env c.A (In c σ ((D,l)::Λ)) (.Expr (.Call (.Attribute o ("append":Str) apos) [e] [] pos) Vi::b) J:=
 qT (I':=In c σ ((D,l++[p])::Λ)) (λs i=>by
  refine fM ?_ hi hs
  refine dN (T:="list") Uq U1 Uv PySem.F.plainAttrs_list PySem.F.slot_list_append PySem.F.type_list_append (ab (ho.run s i) (λv Vw uu=>eA uu λUK WG=> ?_) λz z e=>e)
  subst WG
  have U4:=i.mono (mG UK)
  obtain ⟨hD,vs,⟨n,pl⟩,rs⟩:=U4.lists _ (.head _)
  refine ⟨⟨_,pl,rfl⟩,λa e=>by cases e;exact ⟨_,pl,rfl⟩,nI (qp ?_ UT)⟩
  refine cB (ab (he.run Vw U4) (λu T0 uu=>eA uu λT2 T5=>cF ⟨rj,?_⟩) λz z e=>e) UT
  exact ab (CJ (U4.mono (mG T2)) T5 Uk hsz) (λz T3 uu=>eA uu λUD T7=>⟨(nB.of (mH UK T2)).trans UD,T7⟩) λz z e=>e) hb
end
section
variable {prog:aH} {w:av} {c:Sc} {σ:mX} {Λ:List (aF×List PV)}
theorem zb (hb: ∀D,c.g.get? D=az->D∉c.X->mT prog w (c.addOwn D).env (c.addOwn D).A (In (c.addOwn D) ((x,.raw (.ref D))::σ) ((D,[])::Λ)) b J)
  (hx: ∀D,sA (c.addOwn D) x:=by exact λz=>.inl rfl) (hk:autoParam (c.env.scope.kind= .function) XZ) (hs:autoParam (cJ (.List [] lp) (aa (.Name x px)) pos.line c.env=bG false) XZ):
  mT prog w c.env c.A (In c σ Λ) (.Assign [.Name x px] (.List [] lp) pos::b) J:=wZ hb hx hk hs
theorem ED (x:Str) (hx:σ.lookup x=aa (.raw (.ref D))) (Uk: ∀q∈Λ,q.1≠D) (hD:D∉c.X) (hb:mT prog w c.env c.A (In c ((x,.list l)::σ) Λ) b J) (hc:c.env.locals∈c.own:=by exact .head _):mT prog w (c.addOwn D).env (c.addOwn D).A (In (c.addOwn D) σ ((D,l)::Λ)) b J:=w0 x hx Uk hD hb hc
end
end
local macro_rules | `(tactic| walk_at "kr") => `(tactic| ((fail_if_success (fail_if_success decide +kernel)); kernel_rfl))
local macro_rules | `(tactic| walk_at $s:str) => q0q "lk=BZ|B9 ?kr ?lk;op=nV|nK|rF|yG|zs|op_ge_int|pY|op_ne_int|ox|sV|t4|oI|sI|sG;evs=mI|mz ?ev ?evs;ev=mN|xe|sF|wv|m6 &ol|nw &lk|mJ &ev &ev &op|rX &ev &op|uX ?ev ?ev ?op;ol=zh _;tr=mY ?ev ?ev ?op|uZ ?tr" s
local macro_rules | `(tactic| walk_at "sub") => `(tactic| (with_reducible intros))
section
open PySem.Calls PyProof.Rows PySem.Builtin.Str
section
variable {w:av}
theorem CW {f:Nat->List Nat} {t:Nat->Nat}: ∀l:List Nat,mK X h (l.map λk=>.str (S (f k))) (l.map λk=>.str (S (f k)) (t k))
 |[]=>mK.nil
 |_::l=>mK.cons oh (CW l)
theorem LQ:mK X h ((ag 256).map λk=>.str (S (pq k))) (z7 256):=CW _
theorem SX:(KB P).lookup 41=aa Rm:=by kernel_rfl
theorem I5 (hc:c<256):rH mu w 1 68 [.str (S [c])] (.str (S (pq c))):=by
 refine qD ["c"] (Qw _) (λvs e=> ?_) (λA X g L lx G=> ?_)
 ·refine eE (vi e) λz T1=> ?_;obtain rfl:=T1;kernel_rfl!
 ·refine ng ?_
  refine nq (p:=.list ((ag 256).map λk=>.str (S (pq k)))) (q:=.int c) ?_ ?_ ?_
  ·exact wg G.base (λh i=>G.offX i) G.gl G.fn (by kernel_rfl) SX ⟨rfl,_,rfl⟩ (λh=>LQ)
  ·refine n9 G (ps:=[.str (S [c])]) (by kernel_rfl) (by kernel_rfl) ?_ Hg
   walk_at "evs"
  ·exact m5 (by exact my (.L xJ (.k xA)) [_]) (by simp [hc]) (by exact (my (.i (.b xA (.c 256)) (.B (.k xA) xS)) [_]) hc)
end
section
variable {w:av}
def ul (T:List Nat):List Nat:=dots ai (pe T)
theorem xf (hT:T.length<=400):rH mu w 1 149 [.str (S T)] (.str (S (ul T))):=by
 refine qD ["data"] (IM _) (λvs e=> ?_) (λA X g L lx G=> ?_)
 ·refine eE (vi e) λz T1=> ?_;obtain rfl:=T1;kernel_rfl!
 ·have hl:=KU _ T (aN _)
  refine ng ?_
  refine ym G (T:="re.Pattern") (ud G (by kernel_rfl)) (show (KB w.params).lookup 137=aa MO by kernel_rfl) rfl rfl Pat.plainAttrs Pat.slot_sub Pat.type_sub ?_
   (GM (T:=pe T) (repl:=[46,46]) (λh i=>On (G.inBase h i)) (by exact (my (.i (.l xB (.c 400)) (.i (.l xA (.m 2 xB)) (.l xA xQ))) [_,_]) hT hl) (by decide) (by rfl) (Qu _ (by exact (my (.i (.l xB (.c 400)) (.i (.l xA (.m 2 xB)) (.l xA xQ))) [_,_]) hT hl) _ 0 (aN _) (cx _)))
  refine mz (m6 (zh _)) (mz ?_ mI)
  refine ym G (T:="re.Pattern") (ud G (by kernel_rfl)) (show (KB w.params).lookup 142=aa LI by kernel_rfl) rfl rfl Pat.plainAttrs Pat.slot_sub Pat.type_sub ?_
   (GM (T:=T) (repl:=[13,10]) (λh i=>Os (G.inBase h i)) (by exact (my (.i (.l xA (.c 400)) (.l xA xQ)) [_]) hT) (by decide) (by rfl) (PU T _ 0 (aN _) (cx _)))
  refine mz (uo G (v:=.str (S [13,10]) 2045) (by kernel_rfl) λz=>oh) ?_
  walk_at "evs"
theorem Ff (ha:a∈pi) (hb:b∈pi):rH mu w 1 61 [.str (S [c,a,b])] (.str (S [16*oo a+oo b])):=by
 refine qD ["s"] (PO _) (λvs e=> ?_) (λA X g L lx G=> ?_)
 ·refine eE (vi e) λz T1=> ?_;obtain rfl:=T1;kernel_rfl!
 ·have hv: ∀c∈pi,oo c<=15:=by decide
  have:=hv a ha
  have:=hv b hb
  refine ng (n9 G (ps:=[.int ((16*oo a+oo b:Nat):Int)]) (by kernel_rfl) (by kernel_rfl) (mz ?_ mI) (Ca (by exact (my (.i (.l xA (.c 15)) (.i (.l xB (.c 15)) (.l (.a (.m 16 xA) xB) (.c 1114111)))) [_,_]) (by assumption) this)))
  refine n9 G (ps:=[.str (S [a,b]),.int 16]) (by kernel_rfl) (by kernel_rfl) (mz ?_ (mz mN mI)) (J4 ha hb) (.inr ⟨_,rfl⟩)
  refine mQ (qv (l:=[c,a,b]) ?_ (nY mN) (nY mN) (by have:=aw;simp;exact (my (.i (.e xA xL) (.l xO xA)) [_]) this)) rfl
  walk_at "ev"
end
section
variable {w:av}
def fN (n:Nat):Fx:=⟨false,de n U⟩
noncomputable def tx:Fx:=⟨false,iD 2 1073⟩
def Fm:Fx:=⟨false,rn U 6⟩
def yM:Fx:=⟨false,rn U 3⟩
def xh:Fx:=⟨false,rn (2*U) 3⟩
theorem EH:FR (yM) 4599676419421066581:=ue (a:=false) (m:=6004799503160661) (e:= -54) _ (by kernel_rfl) (by kernel_rfl)
theorem LG:FR (Fm) 4595172819793696085:=ue (a:=false) (m:=6004799503160661) (e:= -55) _ (by kernel_rfl) (by kernel_rfl)
theorem HD:FR (xh) 4604180019048437077:=ue (a:=false) (m:=6004799503160661) (e:= -53) _ (by kernel_rfl) (by kernel_rfl)
theorem zP:FR (tx) 4602678819172646912:=ue (a:=false) (m:=4503599627370496) (e:= -53) _ (by kernel_rfl) (by kernel_rfl)
theorem IE:FR (fN 0) 0:=ue (a:=false) (m:=0) (e:= -1074) _ (by kernel_rfl) (by kernel_rfl)
theorem Sa:FR (fN 1) 4607182418800017408:=ue (a:=false) (m:=4503599627370496) (e:= -52) _ (by kernel_rfl) (by kernel_rfl)
theorem RA:FR (fN 2) 4611686018427387904:=ue (a:=false) (m:=4503599627370496) (e:= -51) _ (by kernel_rfl) (by kernel_rfl)
theorem RZ:FR (fN 4) 4616189618054758400:=ue (a:=false) (m:=4503599627370496) (e:= -50) _ (by kernel_rfl) (by kernel_rfl)
theorem Sf:FR (fN 6) 4618441417868443648:=ue (a:=false) (m:=6755399441055744) (e:= -50) _ (by kernel_rfl) (by kernel_rfl)
end
end
local macro_rules | `(tactic| walk_at $s:str) => q0q "ev=pn IE|pn Sa|pn RA|pn RZ|pn Sf|pn zP|nw ?lk|mN" s
section
open PySem.Calls PyProof.Rows PySem.Builtin.Str
section
variable {w:av}
theorem BF (e:FR f x):mP X h (.fx f) (.float x t):=by exact ⟨_,_,rfl,e⟩
def NK (m1 m2 k:PV):Option PV:=(nR m2 m1).bind λa=>(pF a k).bind λb=>(pF b (.fx (fN 6))).bind λc=>qE m1 c
def vP (m1 m2 hue:PV):Option PV:=(Bt hue).bind λh=>match h with
 |.fx f=>cond (ve f Fm) (NK m1 m2 (.fx f)) (cond (ve f tx) (aa m2) (cond (ve f xh) ((nR (.fx xh) (.fx f)).bind (NK m1 m2)) (aa m1)))
 |_=>az
theorem Ep {m1 m2 hue r:PV} (e:vP m1 m2 hue=aa r):rH mu w 1 118 [m1,m2,hue] r:=by
 refine mR (bd.mp e) λh e1 e2=> ?_
 cases h with
 |fx f=>
  dsimp only at e2
  refine qD ["m1","m2","hue"] (DP _) (λvs e=> ?_) (λA X g L lx G=> ?_)
  ·refine vo (vm e) λz z z T1=> ?_;obtain rfl:=T1;kernel_rfl!
  ·refine mM (p:=.fx f) (mJ (p:=hue) ?_ wv (AD e1)) ?_
   ·walk_at "ev"
   refine m9 (d:=ve f Fm) (mY (p:=.fx f) ?_ (uo G (v:=.float 4595172819793696085 1908) (by kernel_rfl) λz=>BF LG) A1) (λc1=> ?_) (λc1=> ?_)
   ·walk_at "ev"
   ·rw [c1] at e2
    refine mR (bd.mp e2) λa h1 e2=> ?_
    refine mR (bd.mp e2) λb h2 e2=> ?_
    refine mR (bd.mp e2) λc h3 e2=> ?_
    refine ng (mJ (p:=m1) ?_ (mJ (p:=b) (mJ (p:=a) (mJ (p:=m2) ?_ ?_ (nQ h1)) ?_ (pH h2)) ?_ (pH h3)) (qB e2))<;>walk_at "ev"
   rw [c1] at e2
   refine m9 (d:=ve f tx) (mY (p:=.fx f) ?_ (pn zP) A1) (λc2=> ?_) (λc2=> ?_)
   ·walk_at "ev"
   ·rw [c2] at e2
    obtain rfl:=am e2
    refine ng ?_
    walk_at "ev"
   rw [c2] at e2
   refine m9 (d:=ve f xh) (mY (p:=.fx f) ?_ (uo G (v:=.float 4604180019048437077 1912) (by kernel_rfl) λz=>BF HD) A1) (λc3=> ?_) (λc3=> ?_)
   ·walk_at "ev"
   ·rw [c3] at e2
    refine mR (bd.mp e2) λk h0 e2=> ?_
    refine mR (bd.mp e2) λa h1 e2=> ?_
    refine mR (bd.mp e2) λb h2 e2=> ?_
    refine mR (bd.mp e2) λc h3 e2=> ?_
    refine ng (mJ (p:=m1) ?_ (mJ (p:=b) (mJ (p:=a) (mJ (p:=m2) ?_ ?_ (nQ h1)) (mJ (p:=.fx xh) (uo G (v:=.float 4604180019048437077 1912) (by kernel_rfl) λz=>BF HD) ?_ (nQ h0)) (pH h2)) ?_ (pH h3)) (qB e2))<;>walk_at "ev"
   ·rw [c3] at e2
    obtain rfl:=am e2
    refine ng ?_
    walk_at "ev"
 |_=>exact nE e2
end
section
variable {w:av}
def Lk (l s:PV):Option PV:=match l with
 |.fx f=>cond (ve f tx||sU f tx) ((qE (.fx (fN 1)) s).bind (pF l)) ((qE l s).bind λa=>(pF l s).bind (nR a))
 |_=>az
def wa (h l s:PV):Option PV:=cond (rS s (.fx (fN 0))) (aa (.tup [l,l,l]))
 ((Lk l s).bind λm2=>(pF (.fx (fN 2)) l).bind λa=>(nR a m2).bind λm1=>(qE h (.fx yM)).bind λh1=>(nR h (.fx yM)).bind λh2=>
  (vP m1 m2 h1).bind λr=>(vP m1 m2 h).bind λg=>(vP m1 m2 h2).bind λb=>aa (.tup [r,g,b]))
theorem Q6 {G:Prop} (c:rS s (.fx (fN 0))=false) (e:wa h l s=aa r) (k: ∀m2 a m1 h1 h2 x y z,Lk l s=aa m2->pF (.fx (fN 2)) l=aa a->nR a m2=aa m1->qE h (.fx yM)=aa h1->nR h (.fx yM)=aa h2->vP m1 m2 h1=aa x->vP m1 m2 h=aa y->vP m1 m2 h2=aa z->r= .tup [x,y,z]->G):G:=by
 unfold wa at e
 rw [c] at e
 exact m4 e λm2 e1 e=>m4 e λa e2 e=>m4 e λm1 e3 e=>m4 e λh1 e4 e=>m4 e λh2 e5 e=>m4 e λx e6 e=>m4 e λy e7 e=>m4 e λz e8 e=>k m2 a m1 h1 h2 x y z e1 e2 e3 e4 e5 e6 e7 e8 (am e).symm
theorem Ey (hs:uw s=ai) (e:wa h l s=aa r):rH mu w 2 111 [h,l,s] r:=by
 refine qD ["h","l","s"] (H8 _) (λvs e=> ?_) (λA X g L lx G=> ?_)
 ·refine vo (vm e) λu u u T1=> ?_;obtain rfl:=T1;kernel_rfl!
 ·refine m9 (d:=rS s (.fx (fN 0))) (mY (p:=s) ?_ (pn IE) (tK hs rfl)) (λc1=> ?_) (λc1=> ?_)
  ·walk_at "ev"
  ·unfold wa at e
   rw [c1] at e
   obtain rfl:=am e
   refine ng (ou (ps:=[l,l,l]) (mz ?_ (mz ?_ (mz ?_ mI))) (by have:=aw;simp;exact (my (.i (.e xA xL) (.l xO xA)) [_]) this))<;>walk_at "ev"
  refine Q6 c1 e λm2 a m1 h1 h2 x y z e1 e2 e3 e4 e5 e6 e7 e8 er=> ?_
  subst er
  clear e
  cases l with
  |fx f=>
   unfold Lk at e1
   dsimp only at e1
   refine (λtail=>m9 (d:=(ve f tx||sU f tx)) (mY (p:=.fx f) ?e0 (pn zP) Ew) (λc2=>mM (p:=m2) ?e1 tail) (λc2=>mM (p:=m2) ?e2 tail)) ?tail
   case e0=>walk_at "ev"
   case e1=>
    rw [c2] at e1
    refine mR (bd.mp e1) λk k1 k2=> ?_
    refine mJ (p:=.fx f) ?_ (mJ (p:=.fx (fN 1)) ?_ ?_ (qB k1)) (pH k2)<;>walk_at "ev"
   case e2=>
    rw [c2] at e1
    refine mR (bd.mp e1) λk k1 e1=> ?_
    refine mR (bd.mp e1) λj k2 k3=> ?_
    refine mJ (p:=k) (mJ (p:=.fx f) ?_ ?_ (qB k1)) (mJ (p:=.fx f) ?_ ?_ (pH k2)) (nQ k3)<;>walk_at "ev"
   case tail=>
    refine mM (p:=m1) (mJ (p:=a) (mJ (p:=.fx (fN 2)) ?_ ?_ (pH e2)) ?_ (nQ e3)) ?_
    ·walk_at "ev"
    ·walk_at "ev"
    ·walk_at "ev"
    refine ng (ou (ps:=[x,y,z]) (mz (oE G (ps:=[m1,m2,h1]) (by kernel_rfl) (DP _).e ?_ (Ep e6)) (mz (oE G (ps:=[m1,m2,h]) (by kernel_rfl) (DP _).e ?_ (Ep e7)) (mz (oE G (ps:=[m1,m2,h2]) (by kernel_rfl) (DP _).e ?_ (Ep e8)) mI))) (by have:=aw;simp;exact (my (.i (.e xA xL) (.l xO xA)) [_]) this))
    ·refine mz ?_ (mz ?_ (mz (mJ (p:=h) ?_ (uo G (v:=.float 4599676419421066581 1904) (by kernel_rfl) λz=>BF EH) (qB e4)) mI))<;>walk_at "ev"
    ·refine mz ?_ (mz ?_ (mz ?_ mI))<;>walk_at "ev"
    ·refine mz ?_ (mz ?_ (mz (mJ (p:=h) ?_ (uo G (v:=.float 4599676419421066581 1904) (by kernel_rfl) λz=>BF EH) (nQ e5)) mI))<;>walk_at "ev"
  |_=>exact nE e1
end
section
variable {w:av}
def PN (p:PV):Option Nat:=match p with|.fx f=>Ic f|_=>az
noncomputable def zI (i:Nat) (v p q t:PV):PV:=match i with
 |0=>.tup [v,t,p]|1=>.tup [q,v,p]|2=>.tup [p,v,t]|3=>.tup [p,q,v]|4=>.tup [t,p,v]|_=>.tup [v,p,q]
def ss (h s v:PV):Option PV:=cond (rS s (.fx (fN 0))) (aa (.tup [v,v,v]))
 ((pF h (.fx (fN 6))).bind λh6=>(PN h6).bind λi=>(nR h6 (.int i)).bind λf=>(nR (.fx (fN 1)) s).bind λa=>(pF v a).bind λp=>
  (pF s f).bind λb=>(nR (.fx (fN 1)) b).bind λc=>(pF v c).bind λq=>(nR (.fx (fN 1)) f).bind λd=>(pF s d).bind λe=>(nR (.fx (fN 1)) e).bind λk=>(pF v k).bind λt=>
  aa (zI (i % 6) v p q t))
structure SL (h s v r:PV) (g6:Fx) (i:Nat) (f a p b c q d k j t:PV):Prop where
 e1:pF h (.fx (fN 6))=aa (.fx g6)
 e2:PN (.fx g6)=aa i
 e3:nR (.fx g6) (.int i)=aa f
 e4:nR (.fx (fN 1)) s=aa a
 e5:pF v a=aa p
 e6:pF s f=aa b
 e7:nR (.fx (fN 1)) b=aa c
 e8:pF v c=aa q
 e9:nR (.fx (fN 1)) f=aa d
 e10:pF s d=aa k
 e11:nR (.fx (fN 1)) k=aa j
 e12:pF v j=aa t
 e13:zI (i % 6) v p q t=r
theorem Km (c1:rS s (.fx (fN 0))=false) (e:ss h s v=aa r): ∃g6 i f a p b c q d k j t,SL h s v r g6 i f a p b c q d k j t:=by
 unfold ss at e
 rw [c1] at e
 refine m4 e λh6 e1 e=>m4 e λi e2 e=> ?_
 cases h6 with
 |fx g6=>exact m4 e λf e3 e=>m4 e λa e4 e=>m4 e λp e5 e=>m4 e λb e6 e=>m4 e λc e7 e=>m4 e λq e8 e=>m4 e λd e9 e=>m4 e λk e10 e=>m4 e λj e11 e=>m4 e λt e12 e=>
  ⟨g6,i,f,a,p,b,c,q,d,k,j,t,e1,e2,e3,e4,e5,e6,e7,e8,e9,e10,e11,e12,am e⟩
 |_=>exact nE e2
theorem sx (h:(((n:Nat):Int)==(k:Nat))=ai) (e:zI k v p q t=x):x=zI n v p q t:=by rw [<-e,Int.ofNat_inj.mp (gC h)]
theorem Pp: ∀n<6,((((n:Nat):Int)==0)||(((n:Nat):Int)==1)||(((n:Nat):Int)==2)||(((n:Nat):Int)==3)||(((n:Nat):Int)==4)||(((n:Nat):Int)==5))=ai:=by decide
theorem Tw (k0:(((n:Nat):Int)==0)=false) (k1:(((n:Nat):Int)==1)=false) (k2:(((n:Nat):Int)==2)=false) (k3:(((n:Nat):Int)==3)=false) (k4:(((n:Nat):Int)==4)=false) (k5:(((n:Nat):Int)==5)=false): ¬n<6:=λh=>by
 have:=Pp n h
 rw [k0,k1,k2,k3,k4,k5] at this
 exact oJ this
theorem A6 (hs:uw s=ai) (e:ss h s v=aa r):rH mu w 2 132 [h,s,v] r:=by
 have hz: ∀l:List PV,l.length=3->l.length<=bn:=λl h=>by rw [h,aw];decide
 refine qD ["h","s","v"] (DW _) (λvs e=> ?_) (λA X g L lx G=> ?_)
 ·refine vo (vm e) λz z z T1=> ?_;obtain rfl:=T1;kernel_rfl!
 refine m9 (d:=rS s (.fx (fN 0))) (mY (p:=s) ?_ (pn IE) (tK hs rfl)) (λc1=> ?_) (λc1=> ?_)
 ·walk_at "ev"
 ·have e': .tup [v,v,v]=r:=by unfold ss at e;rw [c1] at e;exact am e
  refine ng (mQ (ou (ps:=[v,v,v]) (mz ?_ (mz ?_ (mz ?_ mI))) (hz _ rfl)) e')<;>walk_at "ev"
 obtain ⟨g6,i,f,a,p,b,c,q,d,k,j,t,st⟩:=Km c1 e
 refine mM (p:=.int i) (n9 G (ps:=[.fx g6]) (by kernel_rfl) (by kernel_rfl) (mz (mJ (p:=h) ?_ ?_ (pH st.e1)) mI) (Bv st.e2) (.inr ⟨_,rfl⟩)) ?_
 ·walk_at "ev"
 ·walk_at "ev"
 refine mM (p:=f) (mJ (p:=.fx g6) (mJ (p:=h) ?_ ?_ (pH st.e1)) ?_ (nQ st.e3)) ?_
 ·walk_at "ev"
 ·walk_at "ev"
 ·walk_at "ev"
 refine mM (p:=p) (mJ (p:=v) ?_ (mJ (p:=.fx (fN 1)) ?_ ?_ (nQ st.e4)) (pH st.e5)) ?_
 ·walk_at "ev"
 ·walk_at "ev"
 ·walk_at "ev"
 refine mM (p:=q) (mJ (p:=v) ?_ (mJ (p:=.fx (fN 1)) ?_ (mJ (p:=s) ?_ ?_ (pH st.e6)) (nQ st.e7)) (pH st.e8)) ?_
 ·walk_at "ev"
 ·walk_at "ev"
 ·walk_at "ev"
 ·walk_at "ev"
 refine mM (p:=t) (mJ (p:=v) ?_ (mJ (p:=.fx (fN 1)) ?_ (mJ (p:=s) ?_ (mJ (p:=.fx (fN 1)) ?_ ?_ (nQ st.e9)) (pH st.e10)) (nQ st.e11)) (pH st.e12)) ?_
 ·walk_at "ev"
 ·walk_at "ev"
 ·walk_at "ev"
 ·walk_at "ev"
 ·walk_at "ev"
 refine mM (p:=.int ((i % 6:Nat):Int)) (mQ (mJ (p:=.int i) ?_ mN (oq (by decide))) (by rw [bM _ (by decide)];rfl)) ?_
 ·walk_at "ev"
 refine m9 (d:=((i % 6:Nat):Int)==0) (mY (p:=.int (i % 6:Nat)) ?_ mN pY) (λc=> ?_) (λk0=> ?_)
 ·walk_at "ev"
 ·refine ng (mQ (ou (ps:=[v,t,p]) (mz ?_ (mz ?_ (mz ?_ mI))) (hz _ rfl)) ((sx (k:=0) c rfl).trans st.e13))<;>walk_at "ev"
 refine m9 (d:=((i % 6:Nat):Int)==1) (mY (p:=.int (i % 6:Nat)) ?_ mN pY) (λc=> ?_) (λk1=> ?_)
 ·walk_at "ev"
 ·refine ng (mQ (ou (ps:=[q,v,p]) (mz ?_ (mz ?_ (mz ?_ mI))) (hz _ rfl)) ((sx (k:=1) c rfl).trans st.e13))<;>walk_at "ev"
 refine m9 (d:=((i % 6:Nat):Int)==2) (mY (p:=.int (i % 6:Nat)) ?_ mN pY) (λc=> ?_) (λk2=> ?_)
 ·walk_at "ev"
 ·refine ng (mQ (ou (ps:=[p,v,t]) (mz ?_ (mz ?_ (mz ?_ mI))) (hz _ rfl)) ((sx (k:=2) c rfl).trans st.e13))<;>walk_at "ev"
 refine m9 (d:=((i % 6:Nat):Int)==3) (mY (p:=.int (i % 6:Nat)) ?_ mN pY) (λc=> ?_) (λk3=> ?_)
 ·walk_at "ev"
 ·refine ng (mQ (ou (ps:=[p,q,v]) (mz ?_ (mz ?_ (mz ?_ mI))) (hz _ rfl)) ((sx (k:=3) c rfl).trans st.e13))<;>walk_at "ev"
 refine m9 (d:=((i % 6:Nat):Int)==4) (mY (p:=.int (i % 6:Nat)) ?_ mN pY) (λc=> ?_) (λk4=> ?_)
 ·walk_at "ev"
 ·refine ng (mQ (ou (ps:=[t,p,v]) (mz ?_ (mz ?_ (mz ?_ mI))) (hz _ rfl)) ((sx (k:=4) c rfl).trans st.e13))<;>walk_at "ev"
 refine m9 (d:=((i % 6:Nat):Int)==5) (mY (p:=.int (i % 6:Nat)) ?_ mN pY) (λc=> ?_) (λk5=> ?_)
 ·walk_at "ev"
 ·refine ng (mQ (ou (ps:=[v,p,q]) (mz ?_ (mz ?_ (mz ?_ mI))) (hz _ rfl)) ((sx (k:=5) c rfl).trans st.e13))<;>walk_at "ev"
 exact absurd (fL i (by decide:6>0)) (Tw k0 k1 k2 k3 k4 k5)
end
section
variable {w:av}
def KQ (r g maxc rc gc bc:PV):Option PV:=(cond (rS r maxc) (nR bc gc) (cond (rS g maxc) ((qE (.fx (fN 2)) rc).bind λa=>nR a bc) ((qE (.fx (fN 4)) gc).bind λa=>nR a rc))).bind λh=>(qK h (.fx (fN 6))).bind Bt
def oz (r g b:PV):Option PV:=(nR (ny r g b) (qo r g b)).bind λrange=>cond (rS (qo r g b) (ny r g b)) (aa (.tup [.fx (fN 0),.fx (fN 0),ny r g b]))
 ((qK range (ny r g b)).bind λs=>(nR (ny r g b) r).bind λa=>(qK a range).bind λrc=>(nR (ny r g b) g).bind λa=>(qK a range).bind λgc=>(nR (ny r g b) b).bind λa=>(qK a range).bind λbc=>
  (KQ r g (ny r g b) rc gc bc).bind λh=>aa (.tup [h,s,ny r g b]))
theorem sp (n:qn p q):uw p=ai:=by
 rcases xt n with ⟨_,_,rfl,rfl⟩|⟨_,_,rfl,rfl⟩<;>rfl
theorem Cd (a:uw p=ai) (b:uw q=ai) (c:uw r=ai):uw (ny p q r)=ai:=by
 unfold ny;cases ug p q<;>cases ug q r<;>cases ug p r<;>assumption
theorem Ct (a:uw p=ai) (b:uw q=ai) (c:uw r=ai):uw (qo p q r)=ai:=by
 unfold qo;cases ug q p<;>cases ug r q<;>cases ug r p<;>assumption
structure Ss (r g b mx range rc gc bc h a1 a2 a3 h0 h1:PV):Prop where
 f1:nR mx r=aa a1
 f2:qK a1 range=aa rc
 f3:nR mx g=aa a2
 f4:qK a2 range=aa gc
 f5:nR mx b=aa a3
 f6:qK a3 range=aa bc
 e5:cond (rS r mx) (nR bc gc) (cond (rS g mx) ((qE (.fx (fN 2)) rc).bind λa=>nR a bc) ((qE (.fx (fN 4)) gc).bind λa=>nR a rc))=aa h0
 e7:qK h0 (.fx (fN 6))=aa h1
 e8:Bt h1=aa h
theorem As {β:Type} {F:PV->Option β} {t:β} {G:Prop} (e:((nR mx r).bind λa=>(qK a range).bind λrc=>(nR mx g).bind λa=>(qK a range).bind λgc=>(nR mx b).bind λa=>(qK a range).bind λbc=>(KQ r g mx rc gc bc).bind F)=aa t)
  (k: ∀rc gc bc h a1 a2 a3 h0 h1,Ss r g b mx range rc gc bc h a1 a2 a3 h0 h1->F h=aa t->G):G:=
 m4 e λa1 f1 e=>m4 e λrc f2 e=>m4 e λa2 f3 e=>m4 e λgc f4 e=>m4 e λa3 f5 e=>m4 e λbc f6 e=>m4 e λh f7 e=>m4 f7 λh0 e5 e6=>m4 e6 λh1 e7 e8=>k rc gc bc h a1 a2 a3 h0 h1 ⟨f1,f2,f3,f4,f5,f6,e5,e7,e8⟩ e
theorem we {α:Type} {x y z:α} (c:b=ai) (e:cond b x y=z):x=z:=by rw [c] at e;exact e
theorem tL {α:Type} {x y z:α} (c:b=false) (e:cond b x y=z):y=z:=by rw [c] at e;exact e
theorem GQ {l:List PV} (h:l.length=3):l.length<=bn:=by rw [h,aw];decide
theorem D1 (i1:uw r=ai) (i2:uw g=ai) (im:uw (ny r g b)=ai) (R:Ss r g b (ny r g b) range rc gc bc h a1 a2 a3 h0 h1):
  mT mu w (mV yn 125 A X [] g' L).env (mV yn 125 A X [] g' L).A (In (mV yn 125 A X [] g' L) (("s",s)::("v",ny r g b)::("rangec",range)::("minc",qo r g b)::("maxc",ny r g b)::ql ["r","g","b"] [r,g,b]) [])
   ((nW (nM 31)).drop 6) (ux g' X (.tup [h,s,ny r g b])):=by
 refine mM (p:=rc) (mJ (p:=a1) (q:=range) (mJ (p:=ny r g b) (q:=r) ?_ ?_ (nQ R.f1)) ?_ (rf R.f2)) ?_
 ·walk_at "ev"
 ·walk_at "ev"
 ·walk_at "ev"
 refine mM (p:=gc) (mJ (p:=a2) (q:=range) (mJ (p:=ny r g b) (q:=g) ?_ ?_ (nQ R.f3)) ?_ (rf R.f4)) ?_
 ·walk_at "ev"
 ·walk_at "ev"
 ·walk_at "ev"
 refine mM (p:=bc) (mJ (p:=a3) (q:=range) (mJ (p:=ny r g b) (q:=b) ?_ ?_ (nQ R.f5)) ?_ (rf R.f6)) ?_
 ·walk_at "ev"
 ·walk_at "ev"
 ·walk_at "ev"
 refine (λtail=>m9 (d:=rS r (ny r g b)) (mY (p:=r) (q:=ny r g b) ?e0 ?e1 (tK i1 im)) (λc1=>mM (p:=h0) ?e2 tail)
  (λc1=>m9 (d:=rS g (ny r g b)) (mY (p:=g) (q:=ny r g b) ?e3 ?e4 (tK i2 im)) (λc2=>mM (p:=h0) ?e5 tail) (λc2=>mM (p:=h0) ?e6 tail))) ?tail
 case e0=>walk_at "ev"
 case e1=>walk_at "ev"
 case e3=>walk_at "ev"
 case e4=>walk_at "ev"
 case e2=>refine mJ (p:=bc) (q:=gc) ?_ ?_ (nQ (we c1 R.e5))<;>walk_at "ev"
 case e5=>exact m4 (we c2 (tL c1 R.e5)) λk k1 k2=>by refine mJ (p:=k) (q:=bc) (mJ (p:=.fx (fN 2)) (q:=rc) ?_ ?_ (qB k1)) ?_ (nQ k2)<;>walk_at "ev"
 case e6=>exact m4 (tL c2 (tL c1 R.e5)) λk k1 k2=>by refine mJ (p:=k) (q:=rc) (mJ (p:=.fx (fN 4)) (q:=gc) ?_ ?_ (qB k1)) ?_ (nQ k2)<;>walk_at "ev"
 refine mM (p:=h) (mJ (p:=h1) (mJ (p:=h0) (q:=.fx (fN 6)) ?_ ?_ (rf R.e7)) wv (AD R.e8)) ?_
 ·walk_at "ev"
 ·walk_at "ev"
 refine ng (ou (ps:=[h,s,ny r g b]) (mz ?_ (mz ?_ (mz ?_ mI))) (GQ rfl))<;>walk_at "ev"
theorem uO (n1:qn r g) (n2:qn g b) (n3:qn r b) (e:oz r g b=aa t):rH mu w 1 125 [r,g,b] t:=by
 have i1:=sp n1
 have i2:=sp n2
 have i3:=sp (sa n3)
 have im:=Cd i1 i2 i3
 have in_:=Ct i1 i2 i3
 have n4:=sa n3
 refine m4 e λrange e1 e=> ?_
 refine qD ["r","g","b"] (vD _) (λvs e=> ?_) (λA X g' L lx G=> ?_)
 ·refine vo (vm e) λz z z T1=> ?_;obtain rfl:=T1;kernel_rfl!
 have hh:(A.deeper (bf yn L 125)).handled=az:=G.room.1
 refine mM (p:=ny r g b) (n9 G (ps:=[r,g,b]) (by kernel_rfl) (by kernel_rfl) (mz ?_ (mz ?_ (mz ?_ mI))) (AC hh n1 n2 n3 n4)) ?_
 ·walk_at "ev"
 ·walk_at "ev"
 ·walk_at "ev"
 refine mM (p:=qo r g b) (n9 G (ps:=[r,g,b]) (by kernel_rfl) (by kernel_rfl) (mz ?_ (mz ?_ (mz ?_ mI))) (A0 hh n1 n2 n3 n4)) ?_
 ·walk_at "ev"
 ·walk_at "ev"
 ·walk_at "ev"
 refine mM (p:=range) (mJ (p:=ny r g b) ?_ ?_ (nQ e1)) ?_
 ·walk_at "ev"
 ·walk_at "ev"
 refine mM (p:=ny r g b) ?_ ?_
 ·walk_at "ev"
 refine m9 (d:=rS (qo r g b) (ny r g b)) (mY (p:=qo r g b) (q:=ny r g b) ?_ ?_ (tK in_ im)) (λc1=> ?_) (λc1=> ?_)
 ·walk_at "ev"
 ·walk_at "ev"
 ·refine ng (mQ (ou (ps:=[.fx (fN 0),.fx (fN 0),ny r g b]) (mz ?_ (mz ?_ (mz ?_ mI))) (GQ rfl)) (am (we c1 e)))<;>walk_at "ev"
 refine m4 (tL c1 e) λs e2 e=>As e λrc gc bc h a1 a2 a3 h0 h1 R e=> ?_
 refine mM (p:=s) (mJ (p:=range) (q:=ny r g b) ?_ ?_ (rf e2)) ?_
 ·walk_at "ev"
 ·walk_at "ev"
 obtain rfl:=am e
 exact D1 i1 i2 im R
end
section
variable {w:av}
def Rh (l range sum mx mn:PV):Option PV:=match l with
 |.fx f=>cond (ve f tx||sU f tx) (qK range sum) ((nR (.fx (fN 2)) mx).bind λa=>(nR a mn).bind (qK range))
 |_=>az
def uL (r g b:PV):Option PV:=(qE (ny r g b) (qo r g b)).bind λsum=>(nR (ny r g b) (qo r g b)).bind λrange=>(qK sum (.fx (fN 2))).bind λl=>
 cond (rS (qo r g b) (ny r g b)) (aa (.tup [.fx (fN 0),l,.fx (fN 0)]))
 ((Rh l range sum (ny r g b) (qo r g b)).bind λs=>(nR (ny r g b) r).bind λa=>(qK a range).bind λrc=>(nR (ny r g b) g).bind λa=>(qK a range).bind λgc=>(nR (ny r g b) b).bind λa=>(qK a range).bind λbc=>
  (KQ r g (ny r g b) rc gc bc).bind λh=>aa (.tup [h,l,s]))
theorem PD {G:Prop} (e:Rh l range sum mx mn=aa s) (k: ∀f,l= .fx f->cond (ve f tx||sU f tx) (qK range sum) ((nR (.fx (fN 2)) mx).bind λa=>(nR a mn).bind (qK range))=aa s->G):G:=by
 cases l with
 |fx f=>exact k f rfl e
 |_=>exact nE e
theorem FW (n1:qn r g) (n2:qn g b) (n3:qn r b) (e:uL r g b=aa t):rH mu w 1 104 [r,g,b] t:=by
 have i1:=sp n1
 have i2:=sp n2
 have i3:=sp (sa n3)
 have im:=Cd i1 i2 i3
 have in_:=Ct i1 i2 i3
 have n4:=sa n3
 refine m4 e λsum e0 e=>m4 e λrange e1 e=>m4 e λl el e=> ?_
 refine qD ["r","g","b"] (DZ _) (λvs e=> ?_) (λA X g' L lx G=> ?_)
 ·refine vo (vm e) λz z z T1=> ?_;obtain rfl:=T1;kernel_rfl!
 have hh:(A.deeper (bf Ja L 104)).handled=az:=G.room.1
 refine mM (p:=ny r g b) (n9 G (ps:=[r,g,b]) (by kernel_rfl) (by kernel_rfl) (mz ?_ (mz ?_ (mz ?_ mI))) (AC hh n1 n2 n3 n4)) ?_
 ·walk_at "ev"
 ·walk_at "ev"
 ·walk_at "ev"
 refine mM (p:=qo r g b) (n9 G (ps:=[r,g,b]) (by kernel_rfl) (by kernel_rfl) (mz ?_ (mz ?_ (mz ?_ mI))) (A0 hh n1 n2 n3 n4)) ?_
 ·walk_at "ev"
 ·walk_at "ev"
 ·walk_at "ev"
 refine mM (p:=sum) (mJ (p:=ny r g b) (q:=qo r g b) ?_ ?_ (qB e0)) ?_
 ·walk_at "ev"
 ·walk_at "ev"
 refine mM (p:=range) (mJ (p:=ny r g b) (q:=qo r g b) ?_ ?_ (nQ e1)) ?_
 ·walk_at "ev"
 ·walk_at "ev"
 refine mM (p:=l) (mJ (p:=sum) (q:=.fx (fN 2)) ?_ ?_ (rf el)) ?_
 ·walk_at "ev"
 ·walk_at "ev"
 refine m9 (d:=rS (qo r g b) (ny r g b)) (mY (p:=qo r g b) (q:=ny r g b) ?_ ?_ (tK in_ im)) (λc1=> ?_) (λc1=> ?_)
 ·walk_at "ev"
 ·walk_at "ev"
 ·refine ng (mQ (ou (ps:=[.fx (fN 0),l,.fx (fN 0)]) (mz ?_ (mz ?_ (mz ?_ mI))) (GQ rfl)) (am (we c1 e)))<;>walk_at "ev"
 refine m4 (tL c1 e) λs e2 e=>As e λrc gc bc h a1 a2 a3 h0 h1 R e=>PD e2 λf lf e2=> ?_
 cases lf
 refine (λtail=>m9 (d:=(ve f tx||sU f tx)) (mY (p:=.fx f) ?e0 (pn zP) Ew) (λc2=>mM (p:=s) ?e1 tail) (λc2=>mM (p:=s) ?e2 tail)) ?tail
 case e0=>walk_at "ev"
 case e1=>refine mJ (p:=range) (q:=sum) ?_ ?_ (rf (we c2 e2))<;>walk_at "ev"
 case e2=>exact m4 (tL c2 e2) λk k1 e2=>m4 e2 λj k2 k3=>by refine mJ (p:=range) (q:=j) ?_ (mJ (p:=k) (q:=qo r g b) (mJ (p:=.fx (fN 2)) (q:=ny r g b) ?_ ?_ (nQ k1)) ?_ (nQ k2)) (rf k3)<;>walk_at "ev"
 refine mM (p:=rc) (mJ (p:=a1) (q:=range) (mJ (p:=ny r g b) (q:=r) ?_ ?_ (nQ R.f1)) ?_ (rf R.f2)) ?_
 ·walk_at "ev"
 ·walk_at "ev"
 ·walk_at "ev"
 refine mM (p:=gc) (mJ (p:=a2) (q:=range) (mJ (p:=ny r g b) (q:=g) ?_ ?_ (nQ R.f3)) ?_ (rf R.f4)) ?_
 ·walk_at "ev"
 ·walk_at "ev"
 ·walk_at "ev"
 refine mM (p:=bc) (mJ (p:=a3) (q:=range) (mJ (p:=ny r g b) (q:=b) ?_ ?_ (nQ R.f5)) ?_ (rf R.f6)) ?_
 ·walk_at "ev"
 ·walk_at "ev"
 ·walk_at "ev"
 refine (λtail=>m9 (d:=rS r (ny r g b)) (mY (p:=r) (q:=ny r g b) ?h0 ?h1 (tK i1 im)) (λc1=>mM (p:=h0) ?h2 tail)
  (λc1=>m9 (d:=rS g (ny r g b)) (mY (p:=g) (q:=ny r g b) ?h3 ?h4 (tK i2 im)) (λc2=>mM (p:=h0) ?h5 tail) (λc2=>mM (p:=h0) ?h6 tail))) ?tl2
 case h0=>walk_at "ev"
 case h1=>walk_at "ev"
 case h3=>walk_at "ev"
 case h4=>walk_at "ev"
 case h2=>refine mJ (p:=bc) (q:=gc) ?_ ?_ (nQ (we c1 R.e5))<;>walk_at "ev"
 case h5=>exact m4 (we c2 (tL c1 R.e5)) λk k1 k2=>by refine mJ (p:=k) (q:=bc) (mJ (p:=.fx (fN 2)) (q:=rc) ?_ ?_ (qB k1)) ?_ (nQ k2)<;>walk_at "ev"
 case h6=>exact m4 (tL c2 (tL c1 R.e5)) λk k1 k2=>by refine mJ (p:=k) (q:=rc) (mJ (p:=.fx (fN 4)) (q:=gc) ?_ ?_ (qB k1)) ?_ (nQ k2)<;>walk_at "ev"
 refine mM (p:=h) (mJ (p:=h1) (mJ (p:=h0) (q:=.fx (fN 6)) ?_ ?_ (rf R.e7)) wv (AD R.e8)) ?_
 ·walk_at "ev"
 ·walk_at "ev"
 refine ng (mQ (ou (ps:=[h,.fx f,s]) (mz ?_ (mz ?_ (mz ?_ mI))) (GQ rfl)) (am e))<;>walk_at "ev"
end
section
variable {w:av}
def vn (k:Nat):List Nat:=if yc.contains k then [k] else if k=32 then [95] else pq k
def DO (b:List UInt8) (x:List Nat):List Nat:=if b.isEmpty then [] else [61,63]++x++[63,113,63]++(b.map (·.toNat)).flatMap vn++[63,61]
theorem Ts:(KB P).lookup 46=aa Nq:=by kernel_rfl
theorem RB:((vb (z7 256) yc 1347).set 32 (.str (S [95]) 1546)).map DX=((ag 256).map vn).map aa:=by kernel_rfl
theorem FS (k:Nat):1<=(vn k).length/\(vn k).length<=3:=by
 unfold vn
 split
 ·simp
 ·split
  ·decide
  ·simp [pq]
theorem HK:rH mu w 1 76 [.bytes #[]] (.str (S [])):=by
 refine t5 ["header_bytes","charset"] (ds:=[.str (aS "iso-8859-1")]) [.str (aS "iso-8859-1") 1849] (Ix _) (λX h=>mK.cons oh mK.nil) (λs vs B e=> ?_) (λA X g L lx G=> ?_)
 ·refine eE (vi e) λz T1=> ?_;obtain rfl:=T1;exact .of_defaults rfl (B.frag 69 Ng (by kernel_rfl)) rfl (by with_unfolding_all rfl) (by with_unfolding_all rfl)
 ·refine m9 (d:=ai) (uZ (b:=false) (ry (p:=.bytes #[]) ?_ (z9 (l:=[]) (by decide)))) (λz=> ?_) (λe=>by exact ro e)
  ·walk_at "ev"
  ·refine ng ?_
   exact m6 (by kernel_rfl)
theorem Jj (hb:b≠[]) (hl:b.length<=5) (hx:x.length<=1000):rH mu w 1 76 [.bytes b.toArray,.str (S x)] (.str (S (DO b x))):=by
 refine t5 ["header_bytes","charset"] (ds:=[]) [] (Ix _) (λX h=>mK.nil) (λs vs B e=> ?_) (λA X g L lx G=> ?_)
 ·refine rN (FT e) λz z T1=> ?_;obtain rfl:=T1;exact .of_defaults rfl (B.frag 69 Ng (by kernel_rfl)) rfl (by with_unfolding_all rfl) (by with_unfolding_all rfl)
 ·have Uk:b.isEmpty=false:=by cases b with|nil=>exact absurd rfl hb|cons=>rfl
  have Ue:((b.map (·.toNat)).map λc=>(vn c).length).sum<=3*b.length:=by
   clear hb hl Uk
   induction b with
   |nil=>simp
   |cons c b ih=>
    have:=FS c.toNat
    simp only [ba,eb,aU]
    exact (my (.i (.l xB (.m 3 xC)) (.i (.l xA xO) (.l (.a xA xB) (.m 3 (.a xC xI))))) [_,_,_]) ih this.2
  refine m9 (d:= !!b.isEmpty) (uZ (ry (p:=.bytes b.toArray) ?_ (z9 (by exact (my (.i (.l xA xN) (.l xA (.c 1000000))) [_]) hl)))) (λe=>by rw [Uk] at e;exact oJ e) (λz=> ?_)
  ·walk_at "ev"
  refine mM (p:=.str (S ((b.map (·.toNat)).flatMap vn))) (rg (p:=.str (S (b.map (·.toNat)))) (T:="str") (rg (p:=.bytes b.toArray) (T:="bytes") ?_ ⟨λs v r=> ?_,λh v r a e=> ?_⟩ FB.plainAttrs_bytes lP FB.type_bytes_decode (mz JY mI) (IB hl hb)) oj F.plainAttrs_str F.slot_str_translate F.type_str_translate (mz (p:=.list ((ag 256).map λk=>.str (S (vn k)))) ?_ mI) (yC (λc hc=> ?_) (by exact (my (.i (.l xB xN) (.i (.l xA (.m 3 xB)) (.l xA (.c 100000)))) [_,_]) hl Ue) (λc z=>(FS c).1))) ?_
  ·walk_at "ev"
  ·obtain ⟨t,rfl⟩:=r;exact typeIs_bytes _ _ _
  ·obtain ⟨t,rfl⟩:=r;cases e
  ·refine mQ (wg (ps:=((ag 256).map vn).map λl=>.str (S l)) G.base (λh i=>G.offX i) G.gl G.fn (by kernel_rfl) Ts ⟨rfl,_,rfl⟩ (λh=>xV RB)) ?_
   rw [aB];rfl
  ·obtain ⟨u,_,rfl⟩:=aK.mp hc
   exact u.toNat_lt
  refine ng ?_
  refine mQ (KM (l:=[61,63]++(x++([63,113,63]++((b.map (·.toNat)).flatMap vn++([63,61]++[]))))) (wf ?_ (wf (NC ?_ (by exact (my (.i (.l xA xQ) (.l xA (.c 100000))) [_]) hx)) (wf ?_ (wf (NC ?_ ?_) (wf ?_ OR))))) ?_) ?_
  ·exact m6 (by kernel_rfl)
  ·walk_at "ev"
  ·exact m6 (by kernel_rfl)
  ·walk_at "ev"
  ·rw [fY];exact (my (.i (.l xB xN) (.i (.l xA (.m 3 xB)) (.l xA (.c 100000)))) [_,_]) hl Ue
  ·exact m6 (by kernel_rfl)
  ·simp only [af,fY,aU,bQ];exact (my (.i (.l xC xN) (.i (.l xA xQ) (.i (.l xB (.m 3 xC)) (.l (.a (.a (.a xJ xI) xI) (.a xA (.a (.a (.a (.a xJ xI) xI) xI) (.a xB (.a (.a (.a xJ xI) xI) xJ))))) (.c 100000))))) [_,_,_]) hl hx Ue
  ·unfold DO
   rw [Uk]
   simp
end
end
local macro_rules | `(tactic| walk_at $s:str) => q0q "has=B6|xq ?lk ?has;op=nV|nK|rF|yG|t4|pY|sI" s
section
open PySem.Calls PyProof.Rows PySem.Builtin.Str
section
variable {w:av}
def hx (c:Nat):Bool:=pi.contains c
noncomputable def nH (Ud:List Nat):List Nat->List Nat
 |[]=>Ud
 |[c]=>if c=61 then [] else c::Ud
 |[c,a]=>c::nH Ud [a]
 |c::a::b::r=>if c=61/\hx a=ai/\hx b=ai then (16*oo a+oo b)::nH Ud r else c::nH Ud (a::b::r)
theorem xz (Ud:List Nat): ∀l:List Nat,(nH Ud l).length<=l.length+Ud.length
 |[]=>by simp [nH]
 |[c]=>by
  rw [nH];split<;>simp only [aU,bQ]<;>(first|exact my (.l (.a xA xI) (.a (.a xJ xI) xA)) [_]|exact my (.l xJ (.a (.a xJ xI) xA)) [_])
 |[c,a]=>by
  have:=xz Ud [a]
  rw [nH];simp only [aU,bQ] at this ⊢;exact (my (.i (.l xA (.a (.a xJ xI) xB)) (.l (.a xA xI) (.a (.a (.a xJ xI) xI) xB))) [_,_]) this
 |c::a::b::r=>by
  have h1:=xz Ud r
  have h2:=xz Ud (a::b::r)
  rw [nH]
  simp only [aU] at h2 ⊢
  split<;>simp only [aU]<;>(first|exact (my (.i (.l xA (.a (.a (.a xB xI) xI) xC)) (.l (.a xA xI) (.a (.a (.a (.a xB xI) xI) xI) xC))) [_,_,_]) h2|exact (my (.i (.l xA (.a xB xC)) (.l (.a xA xI) (.a (.a (.a (.a xB xI) xI) xI) xC))) [_,_,_]) h1)
def oX (Us:List Nat):List (List Nat):=(Txt.lines (S Us)).map λx=>(Txt.rstrip x).cps.toList
def qX (Us Ud:List Nat):List Nat:=(oX Us).flatMap (nH Ud)
def vj (Us Ud:List Nat):List Nat:=if [13,10].contains (Us.getLastD 0)=false/\Txt.endswith (S (qX Us Ud)) (S Ud)=ai then qY (qX Us Ud) az (aa (-(Ud.length:Int))) else qX Us Ud
theorem BW (x:Str):(Txt.rstrip x).cps.toList.length<=x.length:=by
 have:(Txt.rstrip x).length<=x.length:=by
  show (if _ then _ else _:Str).length<=_
  split
  ·exact aN _
  ·show (strSub _ _ _).length<=_
   unfold strSub fJ
   rw [Array.size_extract]
   exact my (.l (.s (.n xA xB) xC) xB) [_,_,_]
 simpa [fJ] using this
theorem MN (Us Ud:List Nat) (k:Nat):(((oX Us).take k).flatMap (nH Ud)).length<=(Us.length+1)*(1+Ud.length):=by
 have h:=fB (S Us)
 rw [mW] at h
 have UA: ∀l:List Str,((l.map λx=>(Txt.rstrip x).cps.toList).flatMap (nH Ud)).length<=((l.map (·.length)).sum+l.length)*(1+Ud.length):=by
  intro l
  induction l with
  |nil=>simp
  |cons x l ih=>
   have h1:=xz Ud (Txt.rstrip x).cps.toList
   have h2:=BW x
   simp only [ba,bh,af,eb,aU]
   have e:(x.length+(l.map (·.length)).sum+(l.length+1))*(1+Ud.length)=((l.map (·.length)).sum+l.length)*(1+Ud.length)+(x.length+1)*(1+Ud.length):=by
    rw [<-iz];congr 1;exact my (.e (.a (.a xA xB) (.a xC xI)) (.a (.a xB xC) (.a xA xI))) [_,_,_]
   have e2:x.length+Ud.length<=(x.length+1)*(1+Ud.length):=by
    rw [iz,Nat.mul_add];exact my (.l (.a xA xB) (.a (.a (.r xA 1) xC) (.m 1 (.a xI xB)))) [_,_,_]
   exact (my (.i (.l xB xD) (.i (.l xA (.a xE xF)) (.i (.l xE xG) (.i (.e xC (.a xD xH)) (.i (.l (.a xG xF) xH) (.l (.a xA xB) xC)))))) [_,_,_,_,_,_,_,_]) ih h1 h2 e e2
 have e:(oX Us).take k=((Txt.lines (S Us)).take k).map λx=>(Txt.rstrip x).cps.toList:=by unfold oX;rw [iK]
 rw [e]
 refine ch (UA _) (lE _ ?_)
 have h3: ∀(l:List Str) (k:Nat),((l.take k).map (·.length)).sum+(l.take k).length<=(l.map (·.length)).sum+l.length:=by
  intro l
  induction l with
  |nil=>intro k;simp
  |cons x l ih=>
   intro k
   cases k with
   |zero=>simp
   |succ k=>
    have:=ih k
    simp only [eN,ba,eb,aU]
    exact (my (.i (.l (.a xB xC) (.a xD xE)) (.l (.a (.a xA xB) (.a xC xI)) (.a (.a xA xD) (.a xE xI)))) [_,_,_,_,_]) this
 have:=h3 (Txt.lines (S Us)) k
 exact (my (.i (.l (.a xD xE) (.a xC xI)) (.i (.l (.a xA xB) (.a xD xE)) (.l (.a xA xB) (.a xC xI)))) [_,_,_,_,_]) h this
theorem yw: ∀{l:List Nat},a∈l->a<=l.sum
 |x::l,h=>by
  rw [eb]
  rcases ao.mp h with e|e
  ·exact (my (.i (.e xA xB) (.l xA (.a xB xC))) [_,_,_]) e
  ·have:=yw e;exact (my (.i (.l xA xC) (.l xA (.a xB xC))) [_,_,_]) this
theorem xu (h:c≠61):nH Ud (c::r)=c::nH Ud r:=by
 match r with
 |[]=>simp [nH,h]
 |[a]=>simp [nH]
 |a::b::r=>rw [nH,if_neg λq=>h q.1]
theorem C5:nH Ud [61]=[]:=by simp [nH]
theorem Ea (ha:hx a=ai) (hb:hx b=ai):nH Ud (61::a::b::r)=(16*oo a+oo b)::nH Ud r:=by
 rw [nH,if_pos ⟨rfl,ha,hb⟩]
theorem Ki (hr:r≠[]) (h: ∀a b r',r=a::b::r'->(hx a&&hx b)=false):nH Ud (61::r)=61::nH Ud r:=by
 match r with
 |[]=>exact absurd rfl hr
 |[a]=>simp [nH]
 |a::b::r=>rw [nH,if_neg λq=>by have:=h a b r rfl;rw [q.2.1,q.2.2] at this;exact ro this]
noncomputable def Py:eh->List eh
 |.For _ _ b _ _=>b
 |.While _ b _ _=>b
 |.If _ b _ _=>b
 |_=>[]
noncomputable def nj (l:List eh) (i:Nat):eh:=l.getD i (.Pass kq)
def PJ:List eh:=Py (nj (nW (nM 23)) 2)
def AU:List eh:=Py (nj PJ 4)
def Pm:List eh:=match nj AU 1 with
 |.If _ _ [.If _ _ [.If _ _ o _] _] _=>o
 |_=>[]
noncomputable def Ch:List Nat:=(aS "0123456789abcdefABCDEF").cps.toList
theorem Hi (c:Nat):Ch.contains c=hx c:=by
 have h1: ∀x∈Ch,x∈pi:=by decide+kernel
 have h2: ∀x∈pi,x∈Ch:=by decide+kernel
 unfold hx
 rw [dE,g9,g9]
 exact ⟨h1 c,h2 c⟩
theorem KE (h:hx c=ai):c∈pi:=g9.mp h
theorem AH {l:List Nat} (e:l.drop i=x::r):l[i]? =aa x/\l.drop (i+1)=r/\i<l.length:=by
 have hi:i<l.length:=by
  rcases dI i l.length with h|h
  ·exact h
  ·rw [fq h] at e;cases e
 rw [gv hi] at e
 cases e
 exact ⟨aA hi,rfl,hi⟩
theorem Ex:rH mu w 2 97 [.str (S []),.str (S Ud)] (.str (S [])):=by
 refine t5 ["encoded","eol"] (ds:=[]) [] (CC _) (λX h=>mK.nil) (λs vs B e=> ?_) (λA X g L lx G=> ?_)
 ·refine rN (FT e) λz z T1=> ?_;obtain rfl:=T1;exact .of_defaults rfl (B.frag 90 M9 (by kernel_rfl)) rfl (by with_unfolding_all rfl) (by with_unfolding_all rfl)
 ·refine m9 (d:=ai) (uZ (b:=false) (ry (p:=.str (S [])) ?_ (t8 (by decide)))) (λz=> ?_) (λe=>by exact ro e)
  ·walk_at "ev"
  ·refine ng ?_
   walk_at "ev"
set_option maxHeartbeats 1000000 in
theorem wV (Uk:Us≠[]) (he:Us.length<=1000) (hE:Ud.length<=2):rH mu w 2 97 [.str (S Us),.str (S Ud)] (.str (S (vj Us Ud))):=by
 refine t5 ["encoded","eol"] (ds:=[]) [] (CC _) (λX h=>mK.nil) (λs vs B e=> ?_) (λA X g L lx G=> ?_)
 ·refine rN (FT e) λz z T1=> ?_;obtain rfl:=T1;exact .of_defaults rfl (B.frag 90 M9 (by kernel_rfl)) rfl (by with_unfolding_all rfl) (by with_unfolding_all rfl)
 ·have hz:=aw
  have Ue:=fB (S Us)
  rw [mW] at Ue
  have bound: ∀k,(((oX Us).take k).flatMap (nH Ud)).length<=10000:=λk=>by
   have h1:(Us.length+1)*(1+Ud.length)<=1001*3:=gq (by exact (my (.i (.l xA xQ) (.l (.a xA xI) (.c 1001))) [_]) he) (by exact (my (.i (.l xA xM) (.l (.a xI xA) xO)) [_]) hE)
   have:=MN Us Ud k
   exact (my (.i (.l xB (.m 1001 xO)) (.i (.l xA xB) (.l xA (.c 10000)))) [_,_]) h1 this
  have Xm:Us.isEmpty=false:=by cases Us with|nil=>exact absurd rfl Uk|cons=>rfl
  refine m9 (d:= !!Us.isEmpty) (uZ (ry (p:=.str (S Us)) ?_ (t8 (by exact (my (.i (.l xA xQ) (.l xA (.c 1000000))) [_]) he)))) (λe=>by rw [Xm] at e;exact oJ e) (λz=> ?_)
  ·walk_at "ev"
  refine mM (p:=.str (S [])) (m6 (by kernel_rfl)) ?_
  refine rJ G (l:=Txt.lines (S Us)) (V:=PV.str) (bs:=λx=>[("line",.str x)]) (λk=>("decoded",.str (S (((oX Us).take k).flatMap (nH Ud))))::ql ["encoded","eol"] [.str (S Us),.str (S Ud)]) (λz=>[])
   (qF (qW (p:=.str (S Us)) (T:="str") ?_ oj F.plainAttrs_str F.slot_str_splitlines F.type_str_splitlines (xk (by rw [mW];exact (my (.i (.l xA xQ) (.i (.e xB xL) (.l (.a xA xI) xB))) [_,_]) he hz))) G.room.1 (.inl ⟨_,_,rfl⟩) λb hb=>ax _ hb) rfl rfl (λa is z=>nO) (λk a g' is hk G'=> ?_) ?_
  ·walk_at "ev"
  ·have ea:(Txt.rstrip a)=S (Txt.rstrip a).cps.toList:=rfl
   have VC:a.length<=1001:=by
    have:a.length<=((Txt.lines (S Us)).map (·.length)).sum:=yw (aK.mpr ⟨a,br hk,rfl⟩)
    exact (my (.i (.l xB xQ) (.i (.l (.a xC xD) (.a xB xI)) (.i (.l xA xC) (.l xA (.c 1001))))) [_,_,_,_]) he Ue this
   have WV:=BW a
   have Wj:((oX Us).take (k+1)).flatMap (nH Ud)=((oX Us).take k).flatMap (nH Ud)++nH Ud (Txt.rstrip a).cps.toList:=by
    have:(oX Us)[k]? =aa (Txt.rstrip a).cps.toList:=by unfold oX;rw [a7,hk];rfl
    rw [gz,this]
    simp
   have b1:=bound (k+1)
   rw [Wj,af] at b1
   have b2:=bound k
   generalize Wi:((oX Us).take k).flatMap (nH Ud)=Uy at*
   generalize hfull:((oX Us).take (k+1)).flatMap (nH Ud)=full at*
   generalize hln:(Txt.rstrip a).cps.toList=ln at*
   have XE:ln.length<=1001:=by exact (my (.i (.l xB (.c 1001)) (.i (.l xA xB) (.l xA (.c 1001)))) [_,_]) VC WV
   refine mM (p:=.str (S ln)) (qW (p:=.str a) (T:="str") ?_ oj F.plainAttrs_str F.slot_str_rstrip F.type_str_rstrip (qw (Im (by exact (my (.i (.e xB xL) (.i (.l xA (.c 1001)) (.l xA xB))) [_,_]) hz VC)) (by rw [ea]))) ?_
   ·walk_at "ev"
   refine m9 (d:= !!ln.isEmpty) (uZ (ry (p:=.str (S ln)) ?_ (t8 (by exact (my (.i (.l xA (.c 1001)) (.l xA (.c 1000000))) [_]) XE)))) (λe=> ?_) (λe=> ?_)
   ·walk_at "ev"
   ·have:ln=[]:=by cases ln with|nil=>rfl|cons=>exact oJ e
    subst this
    refine tt (p:=.str (S Uy)) (q:=.str (S Ud)) (r:=.str (S full)) ?_ ?_ ?_ (Jn ?_)
    ·walk_at "lk"
    ·walk_at "ev"
    ·rw [Wj,show nH Ud []=Ud from rfl]
     exact sG (by exact (my (.i (.l xB xM) (.i (.e xC xL) (.i (.l xA (.c 10000)) (.l (.a xA xB) xC)))) [_,_,_]) hE hz b2)
    ·walk_at "has"
   refine mM (p:=.int 0) mN ?_
   refine mM (p:=.int ln.length) (n9 G' (ps:=[.str (S ln)]) (by kernel_rfl) (by kernel_rfl) (mz ?_ mI) (qw (uR (by rw [mW];exact (my (.i (.l xA (.c 1001)) (.l xA (.c 1000000))) [_]) XE)) (by rw [mW]))) ?_
   ·walk_at "ev"
   let Vs:Nat×List Nat->mX:=λq=>[("i",.int (q.1:Nat)),("decoded",.str (S q.2)),("n",.int (ln.length:Nat)),("line",.str (S ln)),("encoded",.str (S Us)),("eol",.str (S Ud))]
   let Pw:Nat×List Nat->Prop:=λq=>(q.1<ln.length/\q.2++nH Ud (ln.drop q.1)=full)\/(q.1=ln.length/\q.2=full)
   have hln:ln≠[]:=by rintro rfl;exact ro e
   refine o7 (σ':=Vs (0,Uy)) (by walk_at "has") ?_
   refine CO (ι:=Nat×List Nat) Pw Vs (λz=>[]) (λq=>ln.length - q.1) (λq=>decide (((q.1:Nat):Int)<(ln.length:Nat))) (0,Uy) (.inl ⟨dP.mpr hln,by exact eG▸Wj.symm⟩) rfl rfl (λq hq=> ?_) (λq hq ht=> ?_) (λq hq ht=> ?_)
   ·refine mY (p:=.int (q.1:Nat)) (q:=.int (ln.length:Nat)) ?_ ?_ rF<;>walk_at "ev"
   ·obtain ⟨i,d⟩:=q
    have hi:i<ln.length:=by have:=of_decide_eq_true ht;exact (my (.i (.B (.k xA) (.k xB)) (.b xA xB)) [_,_]) this
    have hd:d++nH Ud (ln.drop i)=full:=by
     rcases hq with q|q
     ·exact q.2
     ·exact absurd q.1 (dj hi)
    obtain ⟨x,r,Wt⟩: ∃x r,ln.drop i=x::r:=by
     cases h:ln.drop i with
     |nil=>have:=congrArg bj h;rw [bH] at this;simp at this;exact ((my (.i (.b xA xB) (.n (.e (.s xB xA) xJ))) [_,_]) hi this).elim
     |cons x r=>exact ⟨x,r,rfl⟩
    refine rQ (AH Wt) λU6 hr1 z=> ?_
    have Vt:d.length<=10000:=by
     have:=congrArg bj hd
     rw [af] at this
     have b3:=bound (k+1)
     rw [hfull] at b3
     exact (my (.i (.e (.a xA xB) xC) (.i (.l xC (.c 10000)) (.l xA (.c 10000)))) [_,_,_]) this b3
    have tail: ∀(i':Nat) (d':List Nat),i<i'->i'<=ln.length->d'++nH Ud (ln.drop i')=full->
      mT mu w ((Sc.addX (mV wW 97 A X [] g L) is).at g').env ((Sc.addX (mV wW 97 A X [] g L) is).at g').A (In ((Sc.addX (mV wW 97 A X [] g L) is).at g') (Vs (i',d')) []) (AU.drop 2)
       (λfl h=>(fl= .next\/fl= .cont)/\ ∃j,Pw j/\ln.length - j.1<ln.length - (i,d).1/\In ((Sc.addX (mV wW 97 A X [] g L) is).at g') (Vs j) [] h):=λi' d' h1 h2 h3=>by
     have hfl':d'.length<=10000:=by
      have:=congrArg bj h3
      rw [af] at this
      have b3:=bound (k+1)
      rw [hfull] at b3
      exact (my (.i (.e (.a xA xB) xC) (.i (.l xC (.c 10000)) (.l xA (.c 10000)))) [_,_,_]) this b3
     refine m9 (d:=((i':Nat):Int)==(ln.length:Nat)) (mY (p:=.int (i':Nat)) (q:=.int (ln.length:Nat)) ?_ ?_ pY) (λc=> ?_) (λc=> ?_)
     ·walk_at "ev"
     ·walk_at "ev"
     ·have e:i'=ln.length:=by have:=gC c;exact (my (.i (.E (.k xA) (.k xB)) (.e xA xB)) [_,_]) this
      rw [e,fq (aN _),show nH Ud []=Ud from rfl] at h3
      refine tt (p:=.str (S d')) (q:=.str (S Ud)) (r:=.str (S full)) ?_ ?_ (h3▸sG (by exact (my (.i (.l xB xM) (.i (.e xC xL) (.i (.l xA (.c 10000)) (.l (.a xA xB) xC)))) [_,_,_]) hE hz hfl')) (GU (i:=(i,d)) (ln.length,full) (.inr ⟨rfl,rfl⟩) (by exact (my (.i (.b xB xA) (.b (.s xA xA) (.s xA xB))) [_,_]) hi) rfl ?_)
      ·walk_at "lk"
      ·walk_at "ev"
      ·rw [e];walk_at "has"
     ·have e:i'≠ln.length:=by have:=ne_of_beq_false c;exact (my (.i (.n (.E (.k xA) (.k xB))) (.n (.e xA xB))) [_,_]) this
      exact GU (i:=(i,d)) (i',d') (.inl ⟨by exact (my (.i (.l xA xB) (.i (.n (.e xA xB)) (.b xA xB))) [_,_]) h2 e,h3⟩) (by exact (my (.i (.b xC xB) (.i (.l xB xA) (.b (.s xA xB) (.s xA xC)))) [_,_,_]) h1 h2) rfl (by walk_at "has")
    refine mM (p:=.str (S [x])) (nq (p:=.str (S ln)) (q:=.int (i:Nat)) ?_ ?_ (qN (by exact my (.L xJ (.k xA)) [_]) (by simpa using U6) (by exact (my (.i (.l xB (.c 1001)) (.i (.b xA xB) (.B (.k xA) xS))) [_,_]) XE hi))) ?_
    ·walk_at "ev"
    ·walk_at "ev"
    refine m9 (d:=([x]!=[61])) (mY (p:=.str (S [x])) (q:=.str (S [61])) ?_ ?_ t4) (λc=> ?_) (λc=> ?_)
    ·walk_at "ev"
    ·exact m6 (by kernel_rfl)
    ·have hne61:x≠61:=by rintro rfl;exact oJ c
     refine tt (p:=.str (S d)) (q:=.str (S [x])) (r:=.str (S (d++[x]))) ?_ ?_ (sG (by simp;exact (my (.i (.e xB xL) (.i (.l xA (.c 10000)) (.l (.a xA xI) xB))) [_,_]) hz Vt)) ?_
     ·walk_at "lk"
     ·walk_at "ev"
     refine tt (p:=.int (i:Nat)) (q:=.int 1) (r:=.int ((i+1:Nat):Int)) ?_ ?_ sI ?_
     ·walk_at "lk"
     ·walk_at "ev"
     refine o7 ?_ (tail (i+1) (d++[x]) (by exact my (.b xA (.a xA xI)) [_]) (by exact (my (.i (.b xA xB) (.l (.a xA xI) xB)) [_,_]) hi) ?_)
     ·walk_at "has"
     ·rw [hr1,aJ,<-hd,Wt,xu hne61];rfl
    have hx61:x=61:=by
     by_cases h:x=61
     ·exact h
     ·have:([x]!=[61])=ai:=by simp [h]
      rw [this] at c;exact ro c
    subst hx61
    have UR:ln.length=i+1+r.length:=by have:=congrArg bj Wt;rw [bH] at this;simp at this;exact (my (.i (.e (.s xA xB) (.a xC xI)) (.e xA (.a (.a xB xI) xC))) [_,_,_]) this
    cases r with
    |nil=>
     simp only [bQ] at UR
     refine m9 (d:=((i:Nat):Int)+1==(ln.length:Nat)) (mY (p:=.int ((i:Nat)+1)) (q:=.int (ln.length:Nat)) ?_ ?_ pY) (λc=> ?_) (λc=> ?_)
     ·walk_at "ev"
     ·walk_at "ev"
     ·refine tt (p:=.int (i:Nat)) (q:=.int 1) (r:=.int ((i+1:Nat):Int)) ?_ ?_ sI (N1 (i:=(i,d)) (i+1,d) (.inr ⟨by exact (my (.i (.e xB (.a (.a xA xI) xJ)) (.e (.a xA xI) xB)) [_,_]) UR,?_⟩) (by exact (my (.i (.e xA (.a (.a xB xI) xJ)) (.b (.s xA (.a xB xI)) (.s xA xB))) [_,_]) UR) rfl ?_)
      ·walk_at "lk"
      ·walk_at "ev"
      ·rw [Wt,C5,bK] at hd;exact hd
      ·walk_at "has"
     ·have:=ne_of_beq_false c;exact ((my (.i (.e xA (.a (.a xB xI) xJ)) (.n (.n (.E (.a (.k xB) xI) (.k xA))))) [_,_]) UR this).elim
    |cons a r=>
     simp only [aU] at UR
     refine rQ (AH hr1) λha1 hr2 z=> ?_
     have WW:(∀a' b r',a::r=a'::b::r'->(hx a'&&hx b)=false)->
       mT mu w ((Sc.addX (mV wW 97 A X [] g L) is).at g').env ((Sc.addX (mV wW 97 A X [] g L) is).at g').A (In ((Sc.addX (mV wW 97 A X [] g L) is).at g') (("c",.str (S [61]))::Vs (i,d)) []) (Pm++AU.drop 2)
        (λfl h=>(fl= .next\/fl= .cont)/\ ∃j,Pw j/\ln.length - j.1<ln.length - (i,d).1/\In ((Sc.addX (mV wW 97 A X [] g L) is).at g') (Vs j) [] h):=λUM=>by
      refine tt (p:=.str (S d)) (q:=.str (S [61])) (r:=.str (S (d++[61]))) ?_ ?_ (sG (by simp;exact (my (.i (.e xB xL) (.i (.l xA (.c 10000)) (.l (.a xA xI) xB))) [_,_]) hz Vt)) ?_
      ·walk_at "lk"
      ·walk_at "ev"
      refine tt (p:=.int (i:Nat)) (q:=.int 1) (r:=.int ((i+1:Nat):Int)) ?_ ?_ sI ?_
      ·walk_at "lk"
      ·walk_at "ev"
      refine o7 ?_ (tail (i+1) (d++[61]) (by exact my (.b xA (.a xA xI)) [_]) (by exact (my (.i (.e xB (.a (.a xA xI) (.a xC xI))) (.l (.a xA xI) xB)) [_,_,_]) UR) ?_)
      ·walk_at "has"
      ·rw [hr1,aJ,<-hd,Wt,Ki (by simp) UM];rfl
     refine m9 (d:=((i:Nat):Int)+1==(ln.length:Nat)) (mY (p:=.int ((i:Nat)+1)) (q:=.int (ln.length:Nat)) ?_ ?_ pY) (λc=> ?_) (λz=> ?_)
     ·walk_at "ev"
     ·walk_at "ev"
     ·have:=gC c;exact ((my (.i (.e xA (.a (.a xB xI) (.a xC xI))) (.n (.E (.a (.k xB) xI) (.k xA)))) [_,_,_]) UR this).elim
     cases r with
     |nil=>
      simp only [bQ] at UR
      refine m9 (d:=decide (((i:Nat):Int)+2<(ln.length:Nat))&&ai) (Bi (rh (mY (p:=.int ((i:Nat)+2)) (q:=.int (ln.length:Nat)) ?_ ?_ rF) λh=> ?_)) (λc=> ?_) (λz=> ?_)
      ·walk_at "ev"
      ·walk_at "ev"
      ·have:=of_decide_eq_true h;exact ((my (.i (.e xA (.a (.a xB xI) (.a xJ xI))) (.n (.B (.a (.k xB) xM) (.k xA)))) [_,_]) UR this).elim
      ·have:=of_decide_eq_true (aP.mp c).1;exact ((my (.i (.e xA (.a (.a xB xI) (.a xJ xI))) (.n (.B (.a (.k xB) xM) (.k xA)))) [_,_]) UR this).elim
      ·exact WW λz z z e=>by cases e
     |cons b r=>
      simp only [aU] at UR
      refine rQ (AH hr2) λVO hr3 z=> ?_
      have hxT: ∀h,mP ((Sc.addX (mV wW 97 A X [] g L) is).at g').X h (.str (S Ch)) (.str (.ofString "0123456789abcdefABCDEF") 1334):=λh=>oh
      refine m9 (d:=decide (((i:Nat):Int)+2<(ln.length:Nat))&&(hx a&&(hx b&&ai))) (Bi (rh (mY (p:=.int ((i:Nat)+2)) (q:=.int (ln.length:Nat)) ?_ ?_ rF) λz=>
       rh (mY (p:=.str (S [a])) (q:=.str (S Ch)) (nq (p:=.str (S ln)) (q:=.int ((i:Nat)+1)) ?_ ?_ (qN (by exact my (.L xJ (.a (.k xA) xI)) [_]) ?_ (by exact (my (.i (.l xB (.c 1001)) (.i (.e xB (.a (.a xA xI) (.a (.a xC xI) xI))) (.B (.a (.k xA) xI) xS))) [_,_,_]) XE UR))) (uo G' (v:=.str (.ofString "0123456789abcdefABCDEF") 1334) (by kernel_rfl) hxT) (te wJ (by rw [tm,Hi]))) λz=>
       rh (mY (p:=.str (S [b])) (q:=.str (S Ch)) (nq (p:=.str (S ln)) (q:=.int ((i:Nat)+2)) ?_ ?_ (qN (by exact my (.L xJ (.a (.k xA) xM)) [_]) ?_ (by exact (my (.i (.l xB (.c 1001)) (.i (.e xB (.a (.a xA xI) (.a (.a xC xI) xI))) (.B (.a (.k xA) xM) xS))) [_,_,_]) XE UR))) (uo G' (v:=.str (.ofString "0123456789abcdefABCDEF") 1334) (by kernel_rfl) hxT) (te wJ (by rw [tm,Hi]))) λz=>Db)) (λc=> ?_) (λc=> ?_)
      ·walk_at "ev"
      ·walk_at "ev"
      ·walk_at "ev"
      ·walk_at "ev"
      ·exact (show (((i:Nat):Int)+1).toNat=i+1 by exact my (.e (.t (.a (.k xA) xI)) (.a xA xI)) [_])▸ha1
      ·walk_at "ev"
      ·walk_at "ev"
      ·exact (show (((i:Nat):Int)+2).toNat=i+1+1 by exact my (.e (.t (.a (.k xA) xM)) (.a (.a xA xI) xI)) [_])▸VO
      ·rw [bI,bI,bI] at c
       have ha:=c.2.1
       have hb:=c.2.2.1
       refine tt (p:=.str (S d)) (q:=.str (S [16*oo a+oo b])) (r:=.str (S (d++[16*oo a+oo b]))) ?_
        (oE G' (ps:=[.str (S [61,a,b])]) (by kernel_rfl) (PO _).e (mz (mQ (qv (l:=ln) (lo:=aa ((i:Nat):Int)) (hi:=aa ((i:Nat)+3)) ?_ (nY ?_) (nY ?_) (by exact (my (.i (.e xB xL) (.i (.l xA (.c 1001)) (.l xA xB))) [_,_]) hz XE)) ?_) mI) (Ff (KE ha) (KE hb))) (sG (by simp;exact (my (.i (.e xB xL) (.i (.l xA (.c 10000)) (.l (.a xA xI) xB))) [_,_]) hz Vt)) ?_
       ·walk_at "lk"
       ·walk_at "ev"
       ·walk_at "ev"
       ·walk_at "ev"
       ·rw [show ((i:Nat):Int)+3=((i+3:Nat):Int) by exact my (.E (.a (.k xA) xO) (.k (.a xA xO))) [_],BS,Wt,show i+3 - i=3 by exact my (.e (.s (.a xA xO) xA) xO) [_]];rfl
       refine tt (p:=.int (i:Nat)) (q:=.int 3) (r:=.int ((i+3:Nat):Int)) ?_ ?_ sI ?_
       ·walk_at "lk"
       ·walk_at "ev"
       refine o7 ?_ (tail (i+3) (d++[16*oo a+oo b]) (by exact my (.b xA (.a xA xO)) [_]) (by exact (my (.i (.e xB (.a (.a xA xI) (.a (.a xC xI) xI))) (.l (.a xA xO) xB)) [_,_,_]) UR) ?_)
       ·walk_at "has"
       ·rw [hr3,aJ,<-hd,Wt,Ea ha hb];rfl
      ·refine WW λa' b' r' e=> ?_
       cases e
       have:decide (((i:Nat):Int)+2<(ln.length:Nat))=ai:=decide_eq_true (by exact (my (.i (.e xB (.a (.a xA xI) (.a (.a xC xI) xI))) (.B (.a (.k xA) xM) (.k xB))) [_,_,_]) UR)
       rw [this,Bool.true_and,Bool.and_true] at c
       exact c
   ·obtain ⟨i,d⟩:=q
    have: ¬i<ln.length:=λh=>by have:=of_decide_eq_false ht;exact (my (.i (.b xA xB) (.n (.n (.B (.k xA) (.k xB))))) [_,_]) h this
    have hd:d=full:=by
     rcases hq with q|q
     ·exact absurd q.1 this
     ·exact q.2
    subst hd
    exact qM (by walk_at "has")
  ·have e1:((oX Us).take (Txt.lines (S Us)).length).flatMap (nH Ud)=qX Us Ud:=by
    unfold qX
    rw [bF (by unfold oX;rw [ah];exact aN _)]
   have b1:=bound (Txt.lines (S Us)).length
   rw [e1] at b1 ⊢
   have Up:Us.getLast? =aa (Us.getLastD 0):=by
    have h0:Us.getLast? =aa (Us.getLast Uk):=c7 Uk
    rw [gu,h0];rfl
   refine m9 (d:=(!([13,10].contains (Us.getLastD 0)))&&(Txt.endswith (S (qX Us Ud)) (S Ud)&&ai)) (Bi (rh (mY (p:=.str (S [Us.getLastD 0])) (q:=.str (S [13,10])) (nq (p:=.str (S Us)) (q:=.int (-1)) ?_ (rX (p:=.int 1) mN oI) (tI Up)) ?_ (te Ee (by rw [tm]))) λz=>
    rh (ry (p:=.bool (Txt.endswith (S (qX Us Ud)) (S Ud))) (rg (p:=.str (S (qX Us Ud))) (T:="str") ?_ oj F.plainAttrs_str F.slot_str_endswith F.type_str_endswith (mz ?_ mI) E8) qu) λz=>Db)) (λc=> ?_) (λc=> ?_)
   ·walk_at "ev"
   ·exact m6 (by kernel_rfl)
   ·walk_at "ev"
   ·walk_at "ev"
   ·rw [Bool.and_true,bI] at c
    refine mM (p:=.str (S (vj Us Ud))) (mQ (qv (l:=qX Us Ud) (lo:=az) (hi:=aa (-(Ud.length:Int))) ?_ rG (nY (rX (n9 G (ps:=[.str (S Ud)]) (by kernel_rfl) (by kernel_rfl) (mz ?_ mI) (qw (uR (by rw [mW];exact (my (.i (.l xA xM) (.l xA (.c 1000000))) [_]) hE)) (by rw [mW]))) oI)) (by exact (my (.i (.e xB xL) (.i (.l xA (.c 10000)) (.l xA xB))) [_,_]) hz b1)) ?_) ?_
    ·walk_at "ev"
    ·walk_at "ev"
    ·unfold vj
     rw [if_pos ⟨by simpa using c.1,c.2⟩]
    ·refine ng ?_
     walk_at "ev"
   ·have:vj Us Ud=qX Us Ud:=by
     unfold vj
     refine if_neg λq=> ?_
     rw [q.1,q.2] at c
     exact ro c
    rw [this]
    refine ng ?_
    walk_at "ev"
end
section
variable {w:av}
def nU (k:Nat):List Nat:=if (yb++[13,10]).contains k then [k] else pq k
theorem SK:(KB P).lookup 78=aa Nl:=by kernel_rfl
theorem R9:(vb (vb (z7 256) yb 1552) [13,10] 1863).map DX=((ag 256).map nU).map aa:=by kernel_rfl
theorem A3 (k:Nat):1<=(nU k).length/\(nU k).length<=3:=by
 unfold nU
 split
 ·simp
 ·simp [pq]
noncomputable def re (w:Nat) (r:List Nat):Nat:=if r.getD (w - 3) 0=61 then w - 3 else if r.getD (w - 2) 0=61 then w - 2 else w - 1
noncomputable def rM (w:Nat):Nat->List Nat->List (List Nat)
 |0,r=>[r]
 |f+1,r=>if w+1<=r.length then (r.take (re w r)++[61])::rM w f (r.drop (re w r)) else [r]
theorem Co (w:Nat) (r:List Nat) (hw:4<=w):1<=re w r/\re w r<=w - 1:=by
 unfold re
 split
 ·exact (my (.i (.l xK xA) (.a (.l xI (.s xA xO)) (.l (.s xA xO) (.s xA xI)))) [_]) hw
 ·split<;>(first|exact (my (.i (.l xK xA) (.a (.l xI (.s xA xI)) (.l (.s xA xI) (.s xA xI)))) [_]) hw|exact (my (.i (.l xK xA) (.a (.l xI (.s xA xM)) (.l (.s xA xM) (.s xA xI)))) [_]) hw)
theorem J9 {w f:Nat} (h: ¬w+1<=r.length):rM w f r=[r]:=by
 cases f with
 |zero=>rfl
 |succ f=>rw [rM,if_neg h]
theorem Bf (w:Nat) (hw:4<=w): ∀(f:Nat) (r:List Nat),r.length<=f->(rM w f r).length<=r.length+1/\(rM w f r).flatten.length<=2*r.length
 |0,r,h=>by simp [rM];exact my (.l xA (.m 2 xA)) [_]
 |f+1,r,h=>by
  have hc:=Co w r hw
  rw [rM]
  split
  ·have ih:=Bf w hw f (r.drop (re w r)) (by rw [bH];exact (my (.i (.l xA (.a xC xI)) (.i (.l xI xB) (.l (.s xA xB) xC))) [_,_,_]) h hc.1)
   rw [bH] at ih
   simp only [aU,cu,af,dm,bQ]
   exact (my (.i (.l xI xC) (.i (.l (.a xE xI) xB) (.i (.l xA (.a (.s xB xC) xI)) (.i (.l xD (.m 2 (.s xB xC))) (.a (.l (.a xA xI) (.a xB xI)) (.l (.a (.a (.n xC xB) (.a xJ xI)) xD) (.m 2 xB))))))) [_,_,_,_,_]) hc.1 (by assumption) ih.1 ih.2
  ·simp;exact my (.l xA (.m 2 xA)) [_]
def pQ (w:Nat) (T:List Nat):List (List Nat):=(Txt.lines (S T)).flatMap λx=>rM w x.length x.cps.toList
def wo (w:Nat) (T:List Nat):List (List Nat):=pQ w T++if [13,10].contains (T.getLastD 0) then [[]] else []
def qR (w:Nat) (T Ud:List Nat):List Nat:=(Txt.join (S Ud) ((wo w T).map S)).cps.toList
def Qt (T:List Nat):Prop:= ∀x∈Txt.lines (S T),[32,9].contains (x.cps.toList.getLastD 0)=false
theorem wk (w:Nat) (T:List Nat) (hw:4<=w) (k:Nat):(((Txt.lines (S T)).take k).flatMap λx=>rM w x.length x.cps.toList).length<=T.length+1/\(((Txt.lines (S T)).take k).flatMap λx=>rM w x.length x.cps.toList).flatten.length<=2*(T.length+1):=by
 have h:=fB (S T)
 rw [mW] at h
 have UA: ∀l:List Str,(l.flatMap λx=>rM w x.length x.cps.toList).length<=(l.map (·.length)).sum+l.length/\(l.flatMap λx=>rM w x.length x.cps.toList).flatten.length<=2*(l.map (·.length)).sum:=by
  intro l
  induction l with
  |nil=>simp
  |cons x l ih=>
   have e:x.cps.toList.length=x.length:=by simp [fJ]
   have:=Bf w hw x.length x.cps.toList (by exact (my (.i (.e xA xB) (.l xA xB)) [_,_]) e)
   rw [e] at this
   simp only [bh,af,eO,ba,eb,aU]
   exact (my (.i (.l xB (.a xD xE)) (.i (.l xG (.m 2 xD)) (.i (.l xA (.a xC xI)) (.i (.l xF (.m 2 xC)) (.a (.l (.a xA xB) (.a (.a xC xD) (.a xE xI))) (.l (.a xF xG) (.m 2 (.a xC xD)))))))) [_,_,_,_,_,_,_]) ih.1 ih.2 this.1 this.2
 have h3: ∀(l:List Str) (k:Nat),((l.take k).map (·.length)).sum+(l.take k).length<=(l.map (·.length)).sum+l.length:=by
  intro l
  induction l with
  |nil=>intro k;simp
  |cons x l ih=>
   intro k
   cases k with
   |zero=>simp
   |succ k=>
    have:=ih k
    simp only [eN,ba,eb,aU]
    exact (my (.i (.l (.a xB xC) (.a xD xE)) (.l (.a (.a xA xB) (.a xC xI)) (.a (.a xA xD) (.a xE xI)))) [_,_,_,_,_]) this
 have h1:=UA ((Txt.lines (S T)).take k)
 have h2:=h3 (Txt.lines (S T)) k
 exact (my (.i (.l (.a xD xE) (.a xB xI)) (.i (.l xA (.a xF xG)) (.i (.l xC (.m 2 xF)) (.i (.l (.a xF xG) (.a xD xE)) (.a (.l xA (.a xB xI)) (.l xC (.m 2 (.a xB xI)))))))) [_,_,_,_,_,_,_]) h h1.1 h1.2 h2
theorem DG {mw:Nat} (hw:4<=mw):rH mu w 2 89 [.str (S []),.int mw,.str (S Ud)] (.str (S [])):=by
 refine t5 ["body","maxlinelen","eol"] (ds:=[]) [] (B5 _) (λX h=>mK.nil) (λs vs B e=> ?_) (λA X g L lx G=> ?_)
 ·refine vo (vm e) λz z z T1=> ?_;obtain rfl:=T1;exact .of_defaults rfl (B.frag 82 KD (by kernel_rfl)) rfl (by with_unfolding_all rfl) (by with_unfolding_all rfl)
 ·refine m9 (d:=decide ((mw:Int)<4)) (mY (p:=.int mw) (q:=.int 4) ?_ ?_ rF) (λc=>absurd (of_decide_eq_true c) (by exact (my (.i (.l xK xA) (.n (.B (.k xA) xK))) [_]) hw)) (λz=> ?_)
  ·walk_at "ev"
  ·walk_at "ev"
  refine m9 (d:=ai) (uZ (b:=false) (ry (p:=.str (S [])) ?_ (t8 (by decide)))) (λz=> ?_) (λe=>by exact ro e)
  ·walk_at "ev"
  ·refine ng ?_
   walk_at "ev"
set_option maxHeartbeats 1000000 in
theorem FV {mw:Nat} (Uk:body≠[]) (hb: ∀c∈body,c<256) (Ue:body.length<=300) (hE:Ud.length<=2) (hw:4<=mw) (hw2:mw<=1000) (ht:Qt (body.flatMap nU)):
  rH mu w 2 89 [.str (S body),.int mw,.str (S Ud)] (.str (S (qR mw (body.flatMap nU) Ud))):=by
 refine t5 ["body","maxlinelen","eol"] (ds:=[]) [] (B5 _) (λX h=>mK.nil) (λs vs B e=> ?_) (λA X g L lx G=> ?_)
 ·refine vo (vm e) λz z z T1=> ?_;obtain rfl:=T1;exact .of_defaults rfl (B.frag 82 KD (by kernel_rfl)) rfl (by with_unfolding_all rfl) (by with_unfolding_all rfl)
 ·have hz:=aw
  have hsum:(body.map λc=>(nU c).length).sum<=3*body.length:=by
   clear Uk hb Ue ht
   induction body with
   |nil=>simp
   |cons c b ih=>
    have:=A3 c
    simp only [ba,eb,aU]
    exact (my (.i (.l xB (.m 3 xC)) (.i (.l xA xO) (.l (.a xA xB) (.m 3 (.a xC xI))))) [_,_,_]) ih this.2
  have XF:(body.flatMap nU).length<=900:=by rw [fY];exact (my (.i (.l xB (.c 300)) (.i (.l xA (.m 3 xB)) (.l xA (.c 900)))) [_,_]) Ue hsum
  have hTne:body.flatMap nU≠[]:=by
   cases body with
   |nil=>exact absurd rfl Uk
   |cons c b=>
    intro e
    have:=congrArg bj e
    rw [bh,af] at this
    have:=(A3 c).1
    rw [bQ] at*
    exact (my (.i (.e (.a xA xB) xJ) (.n (.l xI xA))) [_,_]) (by assumption) this
  have Xm:body.isEmpty=false:=by cases body with|nil=>exact absurd rfl Uk|cons=>rfl
  refine m9 (d:=decide ((mw:Int)<4)) (mY (p:=.int mw) (q:=.int 4) ?_ ?_ rF) (λc=>absurd (of_decide_eq_true c) (by exact (my (.i (.l xK xA) (.n (.B (.k xA) xK))) [_]) hw)) (λz=> ?_)
  ·walk_at "ev"
  ·walk_at "ev"
  refine m9 (d:= !!body.isEmpty) (uZ (ry (p:=.str (S body)) ?_ (t8 (by exact (my (.i (.l xA (.c 300)) (.l xA (.c 1000000))) [_]) Ue)))) (λe=>by rw [Xm] at e;exact oJ e) (λz=> ?_)
  ·walk_at "ev"
  refine mM (p:=.str (S (body.flatMap nU))) (rg (p:=.str (S body)) (T:="str") ?_ oj F.plainAttrs_str F.slot_str_translate F.type_str_translate (mz (p:=.list ((ag 256).map λk=>.str (S (nU k)))) ?_ mI) (yC hb (by exact (my (.i (.l xB (.c 300)) (.i (.l xA (.m 3 xB)) (.l xA (.c 100000)))) [_,_]) Ue hsum) (λc z=>(A3 c).1))) ?_
  ·walk_at "ev"
  ·refine mQ (wg (ps:=((ag 256).map nU).map λl=>.str (S l)) G.base (λh i=>G.offX i) G.gl G.fn (by kernel_rfl) SK ⟨rfl,_,rfl⟩ (λh=>xV R9)) ?_
   rw [aB];rfl
  generalize body.flatMap nU=T at*
  refine mM (p:=.str (S (61::Ud))) (mJ (p:=.str (S [61])) (q:=.str (S Ud)) (m6 (by kernel_rfl)) ?_ (ox (by simp;exact (my (.i (.l xA xM) (.i (.e xB xL) (.l (.a xI xA) xB))) [_,_]) hE hz))) ?_
  ·walk_at "ev"
  refine mM (p:=.int ((mw:Int) - 1)) (by walk_at "ev") ?_
  refine wZ λD gD nD=> ?_
  refine F9 (D:=D) (by walk_at "lk") ⟨_,.head _,rfl⟩ λm g1 k1 hm=> ?_
  have G1:=(G.addOwn D).at' k1
  let U8:List (List Nat)->List PV:=λUt=>(Ut.map S).map PV.str
  let Vs0:mX:=[("append",.raw (.ref m)),("encoded_body",.raw (.ref D)),("maxlinelen1",.int ((mw:Int) - 1)),("maxlinelen",.int mw),("body",.str (S T)),("eol",.str (S Ud))]
  let Ut:Nat->List (List Nat):=λk=>((Txt.lines (S T)).take k).flatMap λx=>rM mw x.length x.cps.toList
  have bound: ∀k,(Ut k).length<=1000:=λk=>by have:=(wk mw T hw k).1;exact (my (.i (.l xB (.c 900)) (.i (.l xA (.a xB xI)) (.l xA xQ))) [_,_]) XF this
  refine o7 (σ':=Vs0) (by walk_at "has") ?_
  refine v0 G1 (l:=Txt.lines (S T)) (V:=PV.str) (bs:=λx=>[("line",.str x)]) (λz=>Vs0) (λk=>[(D,U8 (Ut k))])
   (qF (qW (p:=.str (S T)) (T:="str") ?_ oj F.plainAttrs_str F.slot_str_splitlines F.type_str_splitlines (xk (by rw [mW];exact (my (.i (.e xB xL) (.i (.l xA (.c 900)) (.l (.a xA xI) xB))) [_,_]) hz XF))) G1.room.1 (.inl ⟨_,_,rfl⟩) λb hb=>ax _ hb) rfl rfl (λa is z=>nO) (λk a g' is hk G' kg=> ?_) ?_
  ·walk_at "ev"
  ·have hm':g'.get? m=aa (BA.bound D):=kg _ _ hm
   have hak:Ut (k+1)=Ut k++rM mw a.length a.cps.toList:=by
    show List.flatMap _ (List.take (k+1) _)=_
    rw [gz,hk];simp [Ut]
   have b1:=bound (k+1)
   have hlw:=fB (S T)
   rw [mW] at hlw
   have VC:a.length<=901:=by
    have:a.length<=((Txt.lines (S T)).map (·.length)).sum:=yw (aK.mpr ⟨a,br hk,rfl⟩)
    exact (my (.i (.l xB (.c 900)) (.i (.l (.a xC xD) (.a xB xI)) (.i (.l xA xC) (.l xA (.c 901))))) [_,_,_,_]) XF hlw this
   have htr:=ht a (br hk)
   have ea:a=S a.cps.toList:=rfl
   have el:a.length=a.cps.toList.length:=by simp [fJ]
   rw [el] at hak VC
   generalize a.cps.toList=ln at*
   subst ea
   generalize hfull:Ut (k+1)=full at*
   generalize Wi:Ut k=Uy at*
   let Vl:mX:=("laststart",.int ((ln.length:Int) - 1 - mw))::("line",.str (S ln))::Vs0
   refine mM (p:=.int 0) mN ?_
   refine mM (p:=.int ((ln.length:Int) - 1 - mw)) (mJ (p:=.int ((ln.length:Int) - 1)) (q:=.int mw) (mJ (p:=.int (ln.length:Nat)) (q:=.int 1) (n9 G' (ps:=[.str (S ln)]) (by kernel_rfl) (by kernel_rfl) (mz ?_ mI) (qw (uR (by rw [mW];exact (my (.i (.l xA (.c 901)) (.l xA (.c 1000000))) [_]) VC)) (by rw [mW]))) mN nK) ?_ nK) ?_
   ·walk_at "ev"
   ·walk_at "ev"
   let Pw:Nat×List (List Nat)->Prop:=λq=>q.1<=ln.length/\ ∃f,ln.length - q.1<=f/\q.2++rM mw f (ln.drop q.1)=full
   refine o7 (σ':=("start",.int ((0:Nat):Int))::Vl) (by walk_at "has") ?_
   refine CO (ι:=Nat×List (List Nat)) Pw (λq=>("start",.int ((q.1:Nat):Int))::Vl) (λq=>[(D,U8 q.2)]) (λq=>ln.length - q.1) (λq=>decide (((q.1:Nat):Int)<=(ln.length:Int) - 1 - mw)) (0,Uy) ⟨cx _,ln.length,by exact my (.l (.s xA xB) xA) [_,_],by rw [eG];exact hak.symm⟩ rfl rfl (λq hq=> ?_) (λq hq WA=> ?_) (λq hq WA=> ?_)
   ·refine mY (p:=.int (q.1:Nat)) (q:=.int ((ln.length:Int) - 1 - mw)) ?_ ?_ yG<;>walk_at "ev"
   ·obtain ⟨s,ac⟩:=q
    refine oV hq λVU f hf he=> ?_
    dsimp only at VU hf he
    have hs:s+1+mw<=ln.length:=by have:=of_decide_eq_true WA;dsimp only at this;exact (my (.i (.L (.k xA) (.s (.s (.k xC) xI) (.k xB))) (.l (.a (.a xA xI) xB) xC)) [_,_,_]) this
    have WV:(ln.drop s).length=ln.length - s:=bH
    obtain ⟨f,rfl⟩: ∃f',f=f'+1:=⟨f - 1,by exact (my (.i (.l (.s xB xC) xA) (.i (.l (.a (.a xC xI) xD) xB) (.e xA (.a (.s xA xI) xI)))) [_,_,_,_]) hf hs⟩
    rw [rM,if_pos (by exact (my (.i (.l (.a (.a xC xI) xA) xD) (.i (.e xB (.s xD xC)) (.l (.a xA xI) xB))) [_,_,_,_]) hs WV)] at he
    have W3:ac.length<=1000:=by have:=congrArg bj he;rw [af] at this;exact (my (.i (.l xB xQ) (.i (.e (.a xA xC) xB) (.l xA xQ))) [_,_,_]) b1 this
    have hc:=Co mw (ln.drop s) hw
    rw [List.drop_drop] at he
    have getd: ∀i,i<ln.length->ln[i]? =aa (ln.getD i 0):=λi hi=>by rw [aZ,aA hi];rfl
    have WD: ∀i,(ln.drop s).getD i 0=ln.getD (s+i) 0:=λi=>by rw [aZ,aZ,List.getElem?_drop]
    have snoc: ∀i,i<(ln.drop s).length->(ln.drop s).getD i 0=61->(ln.drop s).take (i+1)=(ln.drop s).take i++[61]:=λi hi h=>by
     rw [gz,aA hi]
     rw [aZ,aA hi] at h
     rw [show (ln.drop s)[i]=61 from h];rfl
    have tail: ∀k,re mw (ln.drop s)=k->mT mu w ((Sc.addX (((mV wx 89 A X [] g L).addOwn D).at g1) is).at g').env ((Sc.addX (((mV wx 89 A X [] g L).addOwn D).at g1) is).at g').A
      (In ((Sc.addX (((mV wx 89 A X [] g L).addOwn D).at g1) is).at g') (("start",.int ((s+k:Nat):Int))::Vl) [(D,U8 ac++[.str (S ((ln.drop s).take k++[61]))])]) [] (λfl h=>(fl= .next\/fl= .cont)/\ ∃j,Pw j/\ln.length - j.1<ln.length - (s,ac).1/\
       In ((Sc.addX (((mV wx 89 A X [] g L).addOwn D).at g1) is).at g') (("start",.int ((j.1:Nat):Int))::Vl) [(D,U8 j.2)] h):=λk hk=>by
     subst hk
     refine sJ λgg q=>⟨.inl rfl,(s+re mw (ln.drop s),ac++[(ln.drop s).take (re mw (ln.drop s))++[61]]),⟨by dsimp only;exact (my (.i (.l (.a (.a xA xI) xD) xC) (.i (.l xB (.s xD xI)) (.l (.a xA xB) xC))) [_,_,_,_]) hs hc.2,f,by dsimp only;exact (my (.i (.l (.s xA xB) (.a xD xI)) (.i (.l xI xC) (.l (.s xA (.a xB xC)) xD))) [_,_,_,_]) hf hc.1,by dsimp only;rw [aJ];exact he⟩,by dsimp only;exact (my (.i (.l (.a (.a xB xI) xD) xA) (.i (.l xI xC) (.b (.s xA (.a xB xC)) (.s xA xB)))) [_,_,_,_]) hs hc.1,?_⟩
     rw [show U8 (ac++[(ln.drop s).take (re mw (ln.drop s))++[61]])=U8 ac++[.str (S ((ln.drop s).take (re mw (ln.drop s))++[61]))] by simp [U8]]
     exact q
    have Xb:(U8 ac).length<=bn:=by simp [U8];exact (my (.i (.e xB xL) (.i (.l xA xQ) (.l xA xB))) [_,_]) hz W3
    refine mM (p:=.int ((s+mw - 1:Nat):Int)) (mQ (mJ (p:=.int ((s:Nat):Int)) (q:=.int ((mw:Int) - 1)) ?_ ?_ nV) (by exact congrArg _ ((my (.i (.l xK xB) (.E (.a (.k xA) (.s (.k xB) xI)) (.k (.s (.a xA xB) xI)))) [_,_]) hw))) ?_
    ·walk_at "ev"
    ·walk_at "ev"
    refine m9 (d:=([ln.getD (s+mw - 3) 0]==[61])) (mY (p:=.str (S [ln.getD (s+mw - 3) 0])) (q:=.str (S [61])) (nq (p:=.str (S ln)) (q:=.int ((s+mw - 3:Nat):Int)) ?_ (mQ (mJ (p:=.int ((s+mw - 1:Nat):Int)) (q:=.int 2) ?_ mN nK) (by exact congrArg _ ((my (.i (.l xK xB) (.E (.s (.k (.s (.a xA xB) xI)) xM) (.k (.s (.a xA xB) xO)))) [_,_]) hw))) (qN (by exact my (.L xJ (.k (.s (.a xA xB) xO))) [_,_]) (by rw [ca];exact getd _ (by exact (my (.i (.l (.a (.a xA xI) xB) xC) (.b (.s (.a xA xB) xO) xC)) [_,_,_]) hs)) (by exact (my (.i (.l xC (.c 901)) (.i (.l (.a (.a xA xI) xB) xC) (.B (.k (.s (.a xA xB) xO)) xS))) [_,_,_]) VC hs))) ?_ sV) (λc=> ?_) (λc=> ?_)
    ·walk_at "ev"
    ·walk_at "ev"
    ·exact m6 (by kernel_rfl)
    ·have hx:(ln.drop s).getD (mw - 3) 0=61:=by
      rw [WD,show s+(mw - 3)=s+mw - 3 by exact (my (.i (.l xK xB) (.e (.a xA (.s xB xO)) (.s (.a xA xB) xO))) [_,_]) hw]
      simpa using c
     have hk:re mw (ln.drop s)=mw - 3:=by unfold re;rw [if_pos hx]
     refine tM (D:=D) (m:=m) (l:=U8 ac) (p:=.str (S ((ln.drop s).take (mw - 3)++[61]))) hm' (by walk_at "lk") (mQ (qv (l:=ln) (lo:=aa ((s:Nat):Int)) (hi:=aa ((s+mw - 2:Nat):Int)) ?_ (nY ?_) (nY (mQ (mJ (p:=.int ((s+mw - 1:Nat):Int)) (q:=.int 1) ?_ mN nK) (by exact congrArg _ ((my (.i (.l xK xB) (.E (.s (.k (.s (.a xA xB) xI)) xI) (.k (.s (.a xA xB) xM)))) [_,_]) hw)))) (by exact (my (.i (.e xB xL) (.i (.l xA (.c 901)) (.l xA xB))) [_,_]) hz VC)) ?_) Xb (λz h=>nomatch h) ?_
     ·walk_at "ev"
     ·walk_at "ev"
     ·walk_at "ev"
     ·rw [BS,<-snoc _ (by exact (my (.i (.l (.a (.a xC xI) xA) xD) (.i (.e xB (.s xD xC)) (.b (.s xA xO) xB))) [_,_,_,_]) hs WV) hx,show s+mw - 2 - s=mw - 3+1 by exact (my (.i (.l xI xC) (.i (.e xC (.s xB xO)) (.e (.s (.s (.a xA xB) xM) xA) (.a (.s xB xO) xI)))) [_,_,_]) hc.1 hk]
     refine mM (p:=.int ((s+(mw - 3):Nat):Int)) (mQ (mJ (p:=.int ((s+mw - 1:Nat):Int)) (q:=.int 2) ?_ mN nK) (by exact congrArg _ ((my (.i (.l xK xB) (.E (.s (.k (.s (.a xA xB) xI)) xM) (.k (.a xA (.s xB xO))))) [_,_]) hw))) ?_
     ·walk_at "ev"
     exact o7 (by walk_at "has") (tail _ hk)
    have hx3: ¬(ln.drop s).getD (mw - 3) 0=61:=by
     rw [WD,show s+(mw - 3)=s+mw - 3 by exact (my (.i (.l xK xB) (.e (.a xA (.s xB xO)) (.s (.a xA xB) xO))) [_,_]) hw]
     intro h
     rw [h] at c
     exact ro c
    refine m9 (d:=([ln.getD (s+mw - 2) 0]==[61])) (mY (p:=.str (S [ln.getD (s+mw - 2) 0])) (q:=.str (S [61])) (nq (p:=.str (S ln)) (q:=.int ((s+mw - 2:Nat):Int)) ?_ (mQ (mJ (p:=.int ((s+mw - 1:Nat):Int)) (q:=.int 1) ?_ mN nK) (by exact congrArg _ ((my (.i (.l xK xB) (.E (.s (.k (.s (.a xA xB) xI)) xI) (.k (.s (.a xA xB) xM)))) [_,_]) hw))) (qN (by exact my (.L xJ (.k (.s (.a xA xB) xM))) [_,_]) (by rw [ca];exact getd _ (by exact (my (.i (.l (.a (.a xA xI) xB) xC) (.b (.s (.a xA xB) xM) xC)) [_,_,_]) hs)) (by exact (my (.i (.l xC (.c 901)) (.i (.l (.a (.a xA xI) xB) xC) (.B (.k (.s (.a xA xB) xM)) xS))) [_,_,_]) VC hs))) ?_ sV) (λc=> ?_) (λc=> ?_)
    ·walk_at "ev"
    ·walk_at "ev"
    ·exact m6 (by kernel_rfl)
    ·have hx:(ln.drop s).getD (mw - 2) 0=61:=by
      rw [WD,show s+(mw - 2)=s+mw - 2 by exact (my (.i (.l xK xB) (.e (.a xA (.s xB xM)) (.s (.a xA xB) xM))) [_,_]) hw]
      simpa using c
     have hk:re mw (ln.drop s)=mw - 2:=by unfold re;rw [if_neg hx3,if_pos hx]
     refine tM (D:=D) (m:=m) (l:=U8 ac) (p:=.str (S ((ln.drop s).take (mw - 2)++[61]))) hm' (by walk_at "lk") (mQ (qv (l:=ln) (lo:=aa ((s:Nat):Int)) (hi:=aa ((s+mw - 1:Nat):Int)) ?_ (nY ?_) (nY ?_) (by exact (my (.i (.e xB xL) (.i (.l xA (.c 901)) (.l xA xB))) [_,_]) hz VC)) ?_) Xb (λz h=>nomatch h) ?_
     ·walk_at "ev"
     ·walk_at "ev"
     ·walk_at "ev"
     ·rw [BS,<-snoc _ (by exact (my (.i (.l (.a (.a xC xI) xA) xD) (.i (.e xB (.s xD xC)) (.b (.s xA xM) xB))) [_,_,_,_]) hs WV) hx,show s+mw - 1 - s=mw - 2+1 by exact (my (.i (.l xI xC) (.i (.e xC (.s xB xM)) (.e (.s (.s (.a xA xB) xI) xA) (.a (.s xB xM) xI)))) [_,_,_]) hc.1 hk]
     refine mM (p:=.int ((s+(mw - 2):Nat):Int)) (mQ (mJ (p:=.int ((s+mw - 1:Nat):Int)) (q:=.int 1) ?_ mN nK) (by exact congrArg _ ((my (.i (.l xK xB) (.E (.s (.k (.s (.a xA xB) xI)) xI) (.k (.a xA (.s xB xM))))) [_,_]) hw))) ?_
     ·walk_at "ev"
     exact o7 (by walk_at "has") (tail _ hk)
    ·have WR: ¬(ln.drop s).getD (mw - 2) 0=61:=by
      rw [WD,show s+(mw - 2)=s+mw - 2 by exact (my (.i (.l xK xB) (.e (.a xA (.s xB xM)) (.s (.a xA xB) xM))) [_,_]) hw]
      intro h
      rw [h] at c
      exact ro c
     have hk:re mw (ln.drop s)=mw - 1:=by unfold re;rw [if_neg hx3,if_neg WR]
     refine tM (D:=D) (m:=m) (l:=U8 ac) (p:=.str (S ((ln.drop s).take (mw - 1)++[61]))) hm' (by walk_at "lk") (mJ (p:=.str (S ((ln.drop s).take (mw - 1)))) (q:=.str (S [61])) (mQ (qv (l:=ln) (lo:=aa ((s:Nat):Int)) (hi:=aa ((s+mw - 1:Nat):Int)) ?_ (nY ?_) (nY ?_) (by exact (my (.i (.e xB xL) (.i (.l xA (.c 901)) (.l xA xB))) [_,_]) hz VC)) ?_) ?_ (ox ?_)) Xb (λz h=>nomatch h) ?_
     ·walk_at "ev"
     ·walk_at "ev"
     ·walk_at "ev"
     ·rw [BS,show s+mw - 1 - s=mw - 1 by exact my (.e (.s (.s (.a xA xB) xI) xA) (.s xB xI)) [_,_]]
     ·exact m6 (by kernel_rfl)
     ·rw [dm];simp;exact (my (.i (.e xD xL) (.i (.l xB (.c 901)) (.l (.a (.n (.s xA xI) (.s xB xC)) xI) xD))) [_,_,_,_]) hz VC
     refine mM (p:=.int ((s+(mw - 1):Nat):Int)) (mQ (p:=.int ((s+mw - 1:Nat):Int)) ?_ (by exact congrArg _ ((my (.i (.l xK xB) (.E (.k (.s (.a xA xB) xI)) (.k (.a xA (.s xB xI))))) [_,_]) hw))) ?_
     ·walk_at "ev"
     exact o7 (by walk_at "has") (tail _ hk)
   ·obtain ⟨s,ac⟩:=q
    refine oV hq λVU f hf he=> ?_
    dsimp only at VU hf he
    have hs: ¬mw+1<=(ln.drop s).length:=by rw [bH];have:=of_decide_eq_false WA;dsimp only at this;exact (my (.i (.n (.L (.k xC) (.s (.s (.k xB) xI) (.k xA)))) (.n (.l (.a xA xI) (.s xB xC)))) [_,_,_]) this
    rw [J9 hs] at he
    have W3:ac.length<=1000:=by have:=congrArg bj he;rw [af] at this;exact (my (.i (.l xB xQ) (.i (.e (.a xA xC) xB) (.l xA xQ))) [_,_,_]) b1 this
    have Xb:(U8 ac).length<=bn:=by simp [U8];exact (my (.i (.e xB xL) (.i (.l xA xQ) (.l xA xB))) [_,_]) hz W3
    refine m9 (d:=(!ln.isEmpty)&&(false&&ai)) (Bi (rh (ry (p:=.str (S ln)) ?_ (t8 (by exact (my (.i (.l xA (.c 901)) (.l xA (.c 1000000))) [_]) VC))) λUk=>rh (mY (p:=.str (S [ln.getLastD 0])) (q:=.str (S [32,9])) (nq (p:=.str (S ln)) (q:=.int (-1)) ?_ (rX (p:=.int 1) mN oI) (tI ?_)) ?_ (te wJ ?_)) λh=>by exact oJ h)) (λc=> ?_) (λc=> ?_)
    ·walk_at "ev"
    ·walk_at "ev"
    ·have hln:ln≠[]:=by rintro rfl;exact oJ Uk
     have h0:ln.getLast? =aa (ln.getLast hln):=c7 hln
     rw [gu,h0];rfl
    ·exact m6 (by kernel_rfl)
    ·rw [tm,htr]
    ·rw [jN,iq] at c;exact oJ c
    ·refine tM (D:=D) (m:=m) (l:=U8 ac) (p:=.str (S (ln.drop s))) hm' (by walk_at "lk") (mQ (qv (l:=ln) (lo:=aa ((s:Nat):Int)) (hi:=az) ?_ (nY ?_) rG (by exact (my (.i (.e xB xL) (.i (.l xA (.c 901)) (.l xA xB))) [_,_]) hz VC)) (by rw [PL])) Xb (λz h=>nomatch h) (sr ?_ ?_)
     ·walk_at "ev"
     ·walk_at "ev"
     ·walk_at "has"
     ·rw [<-he]
      simp [U8]
  ·have e1:Ut (Txt.lines (S T)).length=pQ mw T:=by
    show List.flatMap _ (List.take _ _)=_
    rw [bF (aN _)];rfl
   have bl:=wk mw T hw (Txt.lines (S T)).length
   rw [bF (aN _)] at bl
   have bl1:(pQ mw T).length<=T.length+1:=bl.1
   have bl2:(pQ mw T).flatten.length<=2*(T.length+1):=bl.2
   rw [e1]
   have Up:T.getLast? =aa (T.getLastD 0):=by
    have h0:T.getLast? =aa (T.getLast hTne):=c7 hTne
    rw [gu,h0];rfl
   have Xb:(U8 (pQ mw T)).length<=bn:=by simp [U8];exact (my (.i (.e xB xL) (.i (.l xC (.c 900)) (.i (.l xA (.a xC xI)) (.l xA xB)))) [_,_,_]) hz XF bl1
   have qt: ∀l,l=wo mw T->mT mu w (((mV wx 89 A X [] g L).at g1).addOwn D).env (((mV wx 89 A X [] g L).at g1).addOwn D).A (In (((mV wx 89 A X [] g L).at g1).addOwn D) Vs0 [(D,U8 l)]) ((nW (nM 22)).drop 9) (ux g X (.str (S (qR mw T Ud)))):=λl hl=>by
    subst hl
    refine w0 (c:=(mV wx 89 A X [] g L).at g1) "encoded_body" (by walk_at "lk") (λz h=>nomatch h) nD ?_
    refine ng (he:= ?_) (hg:=k1)
    refine rg (p:=.str (S Ud)) (T:="str") ?_ oj F.plainAttrs_str F.slot_str_join F.type_str_join (mz (p:=.list (((wo mw T).map S).map PV.str)) ?_ mI) (qw (v4 (ua ?_)) rfl)
    ·walk_at "ev"
    ·walk_at "ev"
    ·unfold wo
     have U6:(if [13,10].contains (T.getLastD 0)=ai then [([]:List Nat)] else []).length<=1/\(if [13,10].contains (T.getLastD 0)=ai then [([]:List Nat)] else []).flatten.length=0:=by split<;>simp
     rw [eO,af,af]
     have:((pQ mw T).length+(if [13,10].contains (T.getLastD 0)=ai then [([]:List Nat)] else []).length)*Ud.length<=2000*2:=gq (by exact (my (.i (.l xC (.c 900)) (.i (.l xA (.a xC xI)) (.i (.l xB xI) (.l (.a xA xB) (.c 2000))))) [_,_,_]) XF bl1 U6.1) hE
     exact (my (.i (.l xD (.c 900)) (.i (.l xA (.m 2 (.a xD xI))) (.i (.e xB xJ) (.i (.l xC (.m 2000 xM)) (.l (.a (.a xA xB) xC) (.c 1000000)))))) [_,_,_,_]) XF bl2 U6.2 this
   refine m9 (d:=[13,10].contains (T.getLastD 0)) (mY (p:=.str (S [T.getLastD 0])) (q:=.str (S [13,10])) (nq (p:=.str (S T)) (q:=.int (-1)) ?_ (rX (p:=.int 1) mN oI) (tI Up)) (uo G1 (v:=.str (S [13,10]) 289) (by kernel_rfl) λz=>oh) (te wJ (by rw [tm]))) (λc=> ?_) (λc=> ?_)
   ·walk_at "ev"
   ·refine tM (D:=D) (m:=m) (l:=U8 (pQ mw T)) (p:=.str (S [])) hm (by walk_at "lk") (m6 (by kernel_rfl)) Xb (λz h=>nomatch h) ?_
    have:=qt (pQ mw T++[[]]) (by unfold wo;rw [if_pos c])
    rw [show U8 (pQ mw T++[[]])=U8 (pQ mw T)++[.str (S [])] by simp [U8]] at this
    exact this
   ·exact qt (pQ mw T) (by unfold wo;rw [if_neg (by rw [c];exact dz),bK])
end
section
variable {w:av}
def vt (b:Bool) (c:Nat):Bool:= !(if b then Hj c else vc c)
theorem J0 (b:oi P h):rk h 159 ui/\ ∃o,h.get? 159=aa o/\o.cls= .type "re.Pattern":=⟨N9 b,_,b.frag 159 IW (by kernel_rfl),rfl⟩
theorem y6 (b:oi P h):rk h 164 o8/\ ∃o,h.get? 164=aa o/\o.cls= .type "re.Pattern":=⟨NV b,_,b.frag 164 Cs (by kernel_rfl),rfl⟩
theorem zo (hv: ∀c∈T,vt b c=ai) (hT:T.length<=1000):uM w 1 194 H [.str (S T)] [("name",.bool b)] (.str (S T)):=by
 refine tj ["self","value","name"] (ds:=[]) [] (zH _) (λX h=>mK.nil) (λs x vs us B e e'=> ?_) (λA X g L a lx hH G=> ?_)
 ·refine eE (vi e) λv T1=>eE (vi e') λu q2z=> ?_;obtain rfl:=T1;obtain rfl:=q2z;exact .of_eq (by kernel_rfl!)
 ·refine m9 (d:=ai) (mY (p:=.raw (.type "str")) (q:=.raw (.type "str")) (n9 G (ps:=[.str (S T)]) (by kernel_rfl) (by kernel_rfl) (mz ?_ mI) zr (.inr ⟨_,rfl⟩)) (rU G (v:=.type "str") (by kernel_rfl) (by kernel_rfl)) (CR rfl)) (λz=> ?_) (λe=>by exact ro e)
  ·walk_at "ev"
  have WF:yo (bk (if b then ui else o8) T.toArray 0 0 T.toArray.size false):=by
   have UA: ∀i,i<T.toArray.size->(if b then Hj (T.toArray.getD i 0) else vc (T.toArray.getD i 0))=false:=λi hi=>by
    have hi':i<T.length:=by simpa using hi
    have:T.toArray.getD i 0∈T:=by
     rw [pO,aZ,aA hi']
     exact dn hi'
    simpa [vt] using hv _ this
   cases b with
   |true=>exact Qo UA
   |false=>exact Q5 UA
  refine mM (p:=.raw (.ref (if b then 159 else 164))) (DV (c:=b) (ry (p:=.bool b) ?_ qu) (λe=> ?_) (λe=> ?_)) ?_
  ·walk_at "ev"
  ·subst e;exact ud G (by kernel_rfl)
  ·subst e;exact ud G (by kernel_rfl)
  refine m9 (d:=false) (ry (p:=.none) ?_ Ig) (λe=>by exact oJ e) (λz=> ?_)
  ·cases b with
   |true=>exact ym G (T:="re.Pattern") (by walk_at "ev") (show (KB w.params).lookup 159=aa IW by kernel_rfl) rfl rfl Pat.plainAttrs Pat.slot_search Pat.type_search (mz (by walk_at "ev") mI) (wT (λh i=>J0 (G.inBase h i)) hT WF)
   |false=>exact ym G (T:="re.Pattern") (by walk_at "ev") (show (KB w.params).lookup 164=aa Cs by kernel_rfl) rfl rfl Pat.plainAttrs Pat.slot_search Pat.type_search (mz (by walk_at "ev") mI) (wT (λh i=>y6 (G.inBase h i)) hT WF)
  refine ng ?_
  walk_at "ev"
end
section
variable {w:av}
def oG (x:List Nat):List Nat:=(Txt.lower (S x)).cps.toList
theorem C6 (hl:l.length<=1000):uM w 1 245 (r5 l) [] [] (.list (l.map λq=>.str (S q.1))):=by
 refine tj ["self"] (ds:=[]) [] (H3 _) (λX h=>mK.nil) (λs x vs us B e e'=> ?_) (λA X g L a lx hH G=> ?_)
 ·obtain rfl:=aY.mp e;obtain rfl:=aY.mp e';exact .of_eq (by kernel_rfl!)
 ·refine vX hH λd D vs t UB hr=> ?_
  have hz:=aw
  refine ng ?_
  refine mQ (pG (l:=l) (V:=λq=>.tup [.str (S q.1),.str (S q.2)]) (bs:=λq=>[("v",.str (S q.2)),("k",.str (S q.1))]) (cl:=[]) [] (λz=>ai) (λq=>.str (S q.1))
   (t9 (uH G (by walk_at "ev") t) UB hr G.room.1 (.inr ⟨⟨_,_,_,rfl⟩,?_⟩) (λz h=>nomatch h)) nJ (λq C g T6 z=>qS G.room.1) (λq C g T6 z z z=>og) (λq C g T6 z z z z=> ?_) (by exact (my (.i (.l xA xQ) (.i (.e xB xL) (.l xA xB))) [_,_]) hl hz) (λz z=>rfl) rfl trivial rfl ?_) (by rw [bW.mpr (λz z=>rfl)])
  ·intro p hp
   obtain ⟨q,_,rfl⟩:=aK.mp hp
   exact ⟨_,rfl⟩
  ·walk_at "ev"
  ·decide+kernel
theorem Gi (hl:l.length<=1000):uM w 1 250 (r5 l) [] [] (.list (l.map λq=>.str (S q.2))):=by
 refine tj ["self"] (ds:=[]) [] (NA _) (λX h=>mK.nil) (λs x vs us B e e'=> ?_) (λA X g L a lx hH G=> ?_)
 ·obtain rfl:=aY.mp e;obtain rfl:=aY.mp e';exact .of_eq (by kernel_rfl!)
 ·refine vX hH λd D vs t UB hr=> ?_
  have hz:=aw
  refine ng ?_
  refine mQ (pG (l:=l) (V:=λq=>.tup [.str (S q.1),.str (S q.2)]) (bs:=λq=>[("v",.str (S q.2)),("k",.str (S q.1))]) (cl:=[]) [] (λz=>ai) (λq=>.str (S q.2))
   (t9 (uH G (by walk_at "ev") t) UB hr G.room.1 (.inr ⟨⟨_,_,_,rfl⟩,?_⟩) (λz h=>nomatch h)) nJ (λq C g T6 z=>qS G.room.1) (λq C g T6 z z z=>og) (λq C g T6 z z z z=> ?_) (by exact (my (.i (.l xA xQ) (.i (.e xB xL) (.l xA xB))) [_,_]) hl hz) (λz z=>rfl) rfl trivial rfl ?_) (by rw [bW.mpr (λz z=>rfl)])
  ·intro p hp
   obtain ⟨q,_,rfl⟩:=aK.mp hp
   exact ⟨_,rfl⟩
  ·walk_at "ev"
  ·decide+kernel
theorem yt (hl:l.length<=1000):uM w 1 257 (r5 l) [] [] (.list (hp l)):=by
 refine tj ["self"] (ds:=[]) [] (DY _) (λX h=>mK.nil) (λs x vs us B e e'=> ?_) (λA X g L a lx hH G=> ?_)
 ·obtain rfl:=aY.mp e;obtain rfl:=aY.mp e';exact .of_eq (by kernel_rfl!)
 ·refine vX hH λd D vs t UB hr=> ?_
  have hz:=aw
  refine ng ?_
  exact ME (uH G (by walk_at "ev") t) UB hr (by unfold hp;rw [ah];exact (my (.i (.l xA xQ) (.i (.e xB xL) (.l xA xB))) [_,_]) hl hz)
def w5 (l:HP) (nm:List Nat):PV:=match l[l.findIdx λq=>oG q.1==oG nm]? with|some q=>.str (S q.2)|none=>.none
def y3 (x:List Nat):Prop:=x.length<=100/\(∀c∈oG x,vt ai c=ai)/\(oG x).length<=1000/\gx (Txt.lower (S x)).length=false
theorem Em {l:HP} {nm:List Nat} (hl:l.length<=1000) (hn:y3 nm) (hk: ∀q∈l,y3 q.1):uM w 2 240 (r5 l) [.str (S nm)] [] (w5 l nm):=by
 refine tj ["self","name","default"] (ds:=[.none]) [.none] (HR _) (λX h=>mK.cons Ce mK.nil) (λs x vs us B e e'=> ?_) (λA X g L a lx hH G=> ?_)
 ·refine eE (vi e) λv T1=> ?_;obtain rfl:=T1;obtain rfl:=aY.mp e';exact .of_defaults rfl (B.frag 233 Mq (by kernel_rfl)) rfl (by with_unfolding_all rfl) (by with_unfolding_all rfl)
 ·refine vX (id hH) λd D vs t UB hr=> ?_
  have hz:=aw
  refine Ck hn λhn1 hn2 hn3 hn4=> ?_
  refine mM (p:=.str (S (oG nm))) (Bd G (l:=l) (Bb (by walk_at "ev") hH) (zo (T:=oG nm) hn2 hn3) (by kernel_rfl) (zH _).e (by kernel_rfl) (by kernel_rfl)
   (mz (qW (p:=.str (S nm)) (T:="str") (by walk_at "ev") oj F.plainAttrs_str F.slot_str_lower F.type_str_lower (vf hn4)) mI) (xw sF)) ?_
  let Vs:mX:=[("name",.str (S (oG nm))),("default",.none)]
  let Vx:mX:=[("?",.none)]
  generalize hf:(l.findIdx λq=>oG q.1==oG nm)=f
  refine o7 (σ':=if 0<=f then ("self",.raw (.ref a))::Vs else Vx) (by rw [if_pos (cx _)];walk_at "has") ?_
  refine v0 G (l:=l) (V:=λq=>.tup [.str (S q.1),.str (S q.2)]) (bs:=λq=>[("v",.str (S q.2)),("k",.str (S q.1))]) (λi=>if i<=f then ("self",.raw (.ref a))::Vs else Vx) (λz=>[])
   (t9 (uH G (by rw [if_pos (cx _)];walk_at "ev") t) UB hr G.room.1 (.inr ⟨⟨_,_,_,rfl⟩,?_⟩) (λb hb=>hb)) rfl rfl (λq is z=>qS G.room.1) (λi q g' is hq G' kg=> ?_) ?_
  ·intro p hp
   obtain ⟨q,_,rfl⟩:=aK.mp hp
   exact ⟨_,rfl⟩
  ·by_cases hi:i<=f
   ·rw [if_pos hi]
    have hkq:=hk q (br hq)
    refine m9 (d:=(oG q.1==oG nm)) (mY (p:=.str (S (oG q.1))) (q:=.str (S (oG nm))) (qW (p:=.str (S q.1)) (T:="str") (by walk_at "ev") oj F.plainAttrs_str F.slot_str_lower F.type_str_lower (vf hkq.2.2.2)) ?_ sV) (λe=> ?_) (λe=> ?_)
    ·walk_at "ev"
    ·have XH:i=f:=by
      rcases dI i f with h|h
      ·have Un:=(aT.mp hq).1
       have:=List.not_of_lt_findIdx (p:=λq:List Nat×List Nat=>oG q.1==oG nm) (xs:=l) (by rw [hf];exact h)
       rw [(aT.mp hq).2] at this
       rw [e] at this;exact ro this
      ·exact (my (.i (.l xA xB) (.i (.l xB xA) (.e xA xB))) [_,_]) hi h
     have eg:w5 l nm= .str (S q.2):=by unfold w5;rw [hf,<-XH,hq]
     rw [eg]
     refine Mc ?_ kg (λb hb=>aM _ (aM _ hb))
     walk_at "ev"
    ·have XH:i+1<=f:=by
      rcases dI i f with h|h
      ·exact h
      ·have XH:i=f:=by exact (my (.i (.l xA xB) (.i (.l xB xA) (.e xA xB))) [_,_]) hi h
       have Un:=(aT.mp hq).1
       have:=la (p:=λq:List Nat×List Nat=>oG q.1==oG nm) (xs:=l) (w:=by rw [hf,<-XH];exact Un)
       have e2:=(aT.mp hq).2
       simp only [hf,<-XH,e2] at this
       rw [e] at this;exact oJ this
     rw [if_pos XH]
     exact qM (by walk_at "has")
   ·rw [if_neg hi]
    exact BJ (x:="?") (by walk_at "lk") (by kernel_rfl)
  ·by_cases hi:l.length<=f
   ·rw [if_pos hi]
    have eg:w5 l nm= .none:=by unfold w5;rw [hf,List.getElem?_eq_none hi]
    rw [eg]
    refine ng ?_
    walk_at "ev"
   ·rw [if_neg hi]
    exact BJ (x:="?") (by walk_at "lk") (by kernel_rfl)
end
section
variable {w:av}
theorem FZ (hl:l.length<=1000) (hn:y3 nm) (hk: ∀q∈l,y3 q.1):uM w 2 232 (r5 l) [.str (S nm)] [] (.list ((l.filter λq=>oG q.1==oG nm).map λq=>.str (S q.2))):=by
 refine tj ["self","name"] (ds:=[]) [] (Nm _) (λX h=>mK.nil) (λs x vs us B e e'=> ?_) (λA X g L a lx hH G=> ?_)
 ·refine eE (vi e) λv T1=> ?_;obtain rfl:=T1;obtain rfl:=aY.mp e';exact .of_eq (by kernel_rfl!)
 ·refine vX (id hH) λd D vs t UB hr=> ?_
  have hz:=aw
  refine Ck hn λhn1 hn2 hn3 hn4=> ?_
  refine mM (p:=.str (S (oG nm))) (Bd G (l:=l) (Bb (by walk_at "ev") hH) (zo (T:=oG nm) hn2 hn3) (by kernel_rfl) (zH _).e (by kernel_rfl) (by kernel_rfl)
   (mz (qW (p:=.str (S nm)) (T:="str") (by walk_at "ev") oj F.plainAttrs_str F.slot_str_lower F.type_str_lower (vf hn4)) mI) (xw sF)) ?_ (.inr ⟨L+1,uY rfl (by kernel_rfl) (by kernel_rfl)⟩)
  refine ng ?_
  refine pG (l:=l) (V:=λq=>.tup [.str (S q.1),.str (S q.2)]) (bs:=λq=>[("kv",.tup [.str (S q.1),.str (S q.2)])]) (cl:=[("name",L+1)]) [("name",.str (S (oG nm)))] (λq=>oG q.1==oG nm) (λq=>.str (S q.2))
   (t9 (uH G (by walk_at "ev") t) UB hr G.room.1 (.inl ⟨_,_,rfl⟩) (λz h=>nomatch h)) (n5 nJ (by walk_at "lk") (.inl rfl) (λz=>by kernel_rfl) (λz=>.inl (by kernel_rfl))) (λq C g T6 z=>nO) (λq C g T6 hq z z=>yI ?_) (λq C g T6 hq z z z=> ?_) (by exact (my (.i (.l xA xQ) (.i (.e xB xL) (.l xA xB))) [_,_]) hl hz) (λz z=>by kernel_rfl) (by kernel_rfl) ⟨by kernel_rfl,trivial⟩ rfl ?_
  ·refine mY (p:=.str (S (oG q.1))) (q:=.str (S (oG nm))) (qW (p:=.str (S q.1)) (T:="str") (nq (p:=.tup [.str (S q.1),.str (S q.2)]) (q:=.int 0) ?_ mN (rI (by exact my (.L xJ xJ) [] []) rfl (by exact my (.B xJ xS) []))) oj F.plainAttrs_str F.slot_str_lower F.type_str_lower (vf (hk q hq).2.2.2)) ?_ sV
   ·walk_at "ev"
   ·walk_at "ev"
  ·refine nq (p:=.tup [.str (S q.1),.str (S q.2)]) (q:=.int 1) ?_ mN (rI (by exact my (.L xJ xI) [] []) rfl (by exact my (.B xI xS) []))
   walk_at "ev"
  ·decide+kernel
end
section
variable {w:av}
noncomputable def yx (l:HP):List (List Nat):=(l.map λq=>q.1++58::32::q.2)++[[],[]]
def oy (l:HP):List Nat:=(Txt.join (S [13,10]) ((yx l).map S)).cps.toList
def D7 (l:HP):Prop:=l.length<=100/\ ∀q∈l,q.1.length<=100/\q.2.length<=100
theorem JL (h:D7 l):(yx l).flatten.length<=30000/\(yx l).length<=102:=by
 have UA: ∀l:HP,(∀q∈l,q.1.length<=100/\q.2.length<=100)->(l.map λq=>q.1++58::32::q.2).flatten.length<=202*l.length:=by
  intro l
  induction l with
  |nil=>intro _;decide
  |cons q l ih=>
   intro h
   have h1:=h q (.head _)
   have h2:=ih λq' hq=>h q' (.tail _ hq)
   simp only [ba,cu,af,aU]
   exact (my (.i (.l xA xP) (.i (.l xB xP) (.i (.l xC (.m 202 xD)) (.l (.a (.a xA (.a (.a xB xI) xI)) xC) (.m 202 (.a xD xI)))))) [_,_,_,_]) h1.1 h1.2 h2
 have h1:=UA l h.2
 have h2:=h.1
 unfold yx
 simp only [eO,af,cu,List.flatten_nil,bQ,ah,aU]
 exact (my (.i (.l xA (.m 202 xB)) (.i (.l xB xP) (.a (.l (.a xA (.a xJ (.a xJ xJ))) (.c 30000)) (.l (.a xB (.a (.a xJ xI) xI)) (.c 102))))) [_,_]) h1 h2
theorem Kh (h:D7 l):uM w 1 269 (r5 l) [] [] (.str (S (oy l))):=by
 refine tj ["self"] (ds:=[]) [] (RF _) (λX h=>mK.nil) (λs x vs us B e e'=> ?_) (λA X g L a lx hH G=> ?_)
 ·obtain rfl:=aY.mp e;obtain rfl:=aY.mp e';exact .of_eq (by kernel_rfl!)
 ·refine vX hH λd D vs t UB hr=> ?_
  have hz:=aw
  have hl:=h.1
  have hs:=JL h
  refine ng ?_
  refine rg (p:=.str (S [13,10])) (T:="str") ?_ oj F.plainAttrs_str F.slot_str_join F.type_str_join (mz (p:=.list (((yx l).map S).map PV.str)) ?_ mI) (qw (v4 (ua ?_)) rfl)
  ·exact m6 (by kernel_rfl)
  ·refine mQ (mJ (p:=.list ((l.filter λz=>ai).map λq=>.str (S (q.1++58::32::q.2)))) (q:=.list [.str (S []),.str (S [])]) (pG (l:=l) (V:=λq=>.tup [.str (S q.1),.str (S q.2)]) (bs:=λq=>[("kv",.tup [.str (S q.1),.str (S q.2)])]) (cl:=[]) [] (λz=>ai) (λq=>.str (S (q.1++58::32::q.2)))
    (t9 (uH G (by walk_at "ev") t) UB hr G.room.1 (.inl ⟨_,_,rfl⟩) (λz h=>nomatch h)) nJ (λq C g T6 z=>nO) (λq C g T6 z z z=>og) (λq C g T6 hq z z z=> ?_) (by exact (my (.i (.e xB xL) (.i (.l xA xP) (.l xA xB))) [_,_]) hz hl) (λz z=>rfl) rfl trivial rfl ?_) (pX (mz ?_ (mz ?_ mI)) (by simp;exact (my (.i (.e xA xL) (.l xM xA)) [_]) hz)) (pN ?_)) ?_
   ·refine mJ (p:=.str (S [37,115,58,32,37,115])) (q:=.tup [.str (S q.1),.str (S q.2)]) (m6 (by kernel_rfl)) ?_ (MM ?_ ?_)
    ·walk_at "ev"
    ·have:=h.2 q hq;exact (my (.i (.l xA xP) (.l xA (.c 1000000))) [_]) this.1
    ·have:=h.2 q hq;exact (my (.i (.l xA xP) (.l xA (.c 1000000))) [_]) this.2
   ·decide+kernel
   ·exact m6 (by kernel_rfl)
   ·exact m6 (by kernel_rfl)
   ·rw [bW.mpr (λz z=>rfl),ah];simp;exact (my (.i (.e xB xL) (.i (.l xA xP) (.l (.a xA xM) xB))) [_,_]) hz hl
   ·rw [bW.mpr (λz z=>rfl)]
    simp [yx]
  ·simp only [aU,bQ];omega
end
section
variable {w:av}
def E9 (l:HP):Prop:=l.length<=100/\ ∀q∈l,(q.1.length<=100/\ ∀c∈q.1,vt ai c=ai)/\(q.2.length<=100/\ ∀c∈q.2,vt false c=ai)
theorem CK (he:Ev mu w (fs c σ Λ) o (.raw (.ref a))) (t:oO c.g a d D):tJ mu w (fs c σ Λ) o (λh a=> ∃d D,oO h a d D):=.mk λs i=>
 ab (he.run s i) (λv T0 uu=>eA uu λT2 T5=>by
  subst T5
  exact ⟨T2,a,rfl,d,D,t.keep (i.mono (mG T2)).keep⟩) λz z e=>e
theorem zO (G:Gd w 1 c) (ho:Ev mu w (fs c σ Λ) o (.raw (.ref a))) (t:oO c.g a d D)
  (he:Ev mu w (fs c σ Λ) e (.str (S T))) (hv:Ev mu w (fs c σ Λ) v (.bool b)) (h1: ∀c∈T,vt b c=ai) (h2:T.length<=1000)
  (V1:autoParam (bJ (.Call (.Attribute o "_convert_string_type" ap) [e] [⟨aa "name",v,p⟩] pos) c.env=(do
   let ov <-bJ o c.env
   iv ap.atName
   let (f,first) <-gU [ov] (hZ ov "_convert_string_type" pl)
   gI pos f first (fb pos (aE [e] c.env)) (cM pos (bR [⟨aa "name",v,p⟩] c.env)))) XZ)
  (UT:autoParam (aE [e] c.env=(false,bJ e c.env)::aE [] c.env) XZ):
  Ev mu w (fs c σ Λ) (.Call (.Attribute o "_convert_string_type" ap) [e] [⟨aa "name",v,p⟩] pos) (.str (S T)):=.mk λs i=>
 (Nc G (CK ho t) (λz z t=>t) (λz z z uu k=>rN uu λd D t=>⟨d,D,t.keep k⟩) (by kernel_rfl) (zH _).e (by kernel_rfl) (by kernel_rfl) (mz he mI UT) (xw hv)
  (λa=>zo (H:=λz h a=> ∃d D,oO h a d D) h1 h2 c.A c.X _ a G.room (λh i=>G.inBase h i.1) (G.offX i) (λh i=>i.2)) V1 UT).run s i
theorem CX (ok:E9 l) (G:Gd w 1 ((mV tp 187 A (dx::X) [] g L).at g2)) (hx:g2.get? x=aa (fZ 293 dx)) (hd:g2.get? dx=aa cA)
  (VU:dx≠iZ) (Wz:dx≠dh) (hl:g2.IsList D vs.toArray) (hr:mK (dx::X) g2 (hp l) vs) (h1:σ.lookup ("self":Str)=aa (.raw (.ref x))) (h2:σ.lookup ("headers":Str)=aa (.raw (.ref D))):
  mT mu w ((mV tp 187 A (dx::X) [] g L).at g2).env ((mV tp 187 A (dx::X) [] g L).at g2).A (In ((mV tp 187 A (dx::X) [] g L).at g2) σ []) ((nW (o0 0)).drop 1)
   (λfl h=>BO fl= .none/\oH [dx] g2 h/\oO h x dx D):=by
 refine m9 (d:=false) (mY (p:=.raw (.type "list")) (q:=.raw (.type "list")) (n9 G (v:=.type "type") (ps:=[.raw (.ref D)]) (by kernel_rfl) (by kernel_rfl) (mz (nw h2) mI) (λs us i z r=> ?_) (.inr ⟨_,rfl⟩)) (rU G (v:=.type "list") (by kernel_rfl) (by kernel_rfl)) (E7 rfl)) (λe=>by exact oJ e) (λz=> ?_)
 ·refine mR (qJ r) λv T1 r1=> ?_;obtain rfl:=T1
  subst r1
  exact call_type_of (hl.at λo e=>i.keep _ _ e).typeIs (by decide) ⟨mO _,o9⟩
 refine Ga G (x:=x) (dx:=dx) (D:=D) (nw h1) (nw h2) hx hd (dy ..) VU Wz λg3 k3 t B3=> ?_
 have G3:Gd w 1 (((mV tp 187 A (dx::X) [] g L).at g2).at g3):=⟨B3,G.off,G.room,G.fn,G.gl,G.bl⟩
 have hDx:D≠dx:=λq=>by
  obtain ⟨o,e,q2,_⟩:=hl
  rw [q,hd] at e;obtain rfl:=am e
  exact absurd q2 (by decide)
 have hl3:g3.IsList D vs.toArray:=hl.at λo e=>k3 _ _ (λq=>hDx (ak.mp q)) e
 have hr3:mK (dx::X) g3 (hp l) vs:=hr.keepX λb o nb e=>k3 _ _ (λq=>nb (by exact (ak.mp q)▸(.head _))) e
 refine m9 (d:=ai) (ry (p:=.bool ai) sF qu) (λz=> ?_) (λe=>by exact ro e)
 refine o7 (σ':=[("self",.raw (.ref x)),("headers",.raw (.ref D))]) (xq h1 (xq h2 B6)) ?_
 refine v0 G3 (l:=l) (V:=λq=>.tup [.str (S q.1),.str (S q.2)]) (bs:=λq=>[("v",.str (S q.2)),("k",.str (S q.1))]) (λz=>[("self",.raw (.ref x)),("headers",.raw (.ref D))]) (λz=>[])
  (t9 (by walk_at "ev") hl3 hr3 G3.room.1 (.inr ⟨⟨_,_,_,rfl⟩,?_⟩) (λb hb=>hb)) rfl rfl (λq is z=>qS G3.room.1) (λi q g' is hq G' kg=> ?_) ?_
 ·intro p hp
  obtain ⟨q,_,rfl⟩:=aK.mp hp
  exact ⟨_,rfl⟩
 ·have ht:=ok.2 q (br hq)
  have t':oO g' x dx D:=t.keep kg
  refine Fd (zO G' (T:=q.1) (b:=ai) (by walk_at "ev") t' (by walk_at "ev") sF ht.1.2 (by have:=ht.1.1;exact (my (.i (.l xA xP) (.l xA xQ)) [_]) ht.1.1)) ?_
  refine Fd (zO G' (T:=q.2) (b:=false) (by walk_at "ev") t' (by walk_at "ev") sF ht.2.2 (by have:=ht.2.1;exact (my (.i (.l xA xP) (.l xA xQ)) [_]) ht.2.1)) ?_
  exact qM (by walk_at "has")
 ·exact sJ λh i=>⟨rfl,λb o nb e=>i.keep _ _ (k3 b o nb e),t.keep i.keep⟩
end
section
variable {w:av}
theorem L4 (P:aQ):makesIn (KB P) 293=ai:=by kernel_rfl
theorem O2 (P:aQ):iV (KB P) (.ref 293) "__init__"=aa (aa (.ref 187)):=by kernel_rfl
theorem RC (P:aQ):lY (KB P) (.ref 187)=aa (.type "function"):=by kernel_rfl
theorem DB {os:cY} (r3:pt 3 A) (B:oi w.params h) (lx:n7 X h) (hO:sP w.params X)
  (Ul: ∀s:aq,oi w.params s.heap->l8 s tp ⟨.ref (h.objs.size+1)::args,[]⟩ (([("self":Str),"headers"]:List Str).zip (.ref (h.objs.size+1)::(args++dv))))
  (hq: ∀g0,mU h g0->mK (h.objs.size::X) g0 qs (args++dv))
  (body: ∀L A' g0,mU h g0->g0.get? (h.objs.size+1)=aa (fZ 293 h.objs.size)->g0.get? h.objs.size=aa cA->n7 (h.objs.size::X) g0->Gd w 1 (mV tp 187 A' (h.objs.size::X) [] g0 L)->
   mT mu w (bf tp L 187) (A'.deeper (bf tp L 187)) (In (mV tp 187 A' (h.objs.size::X) [] g0 L) (ql ["self","headers"] (.raw (.ref (h.objs.size+1))::qs)) []) (nW (o0 0))
    (λfl h'=> ∀s':aq,s'.heap=h'->nB ⟨h,g,d,t,os⟩ s'->BO fl= .none/\R (.ok (.ret (.ref (h.objs.size+1)))) s')):
  gw (aI mu w) A (.call (.ref 293) ⟨args,[]⟩) R ⟨h,g,d,t,os⟩:=by
 refine make_core (makes_of B.frag (L4 _)) (looks_findIn B.frag (O2 _)) (λself=>bind_fn B.frag self (RC _)) (.inl rfl) ?_
 have r2:pt 2 (A.under (.builtin "type.__call__" ⟨.ref 293::args,[]⟩)):=r3.make 293 args
 generalize (A.under (.builtin "type.__call__" ⟨.ref 293::args,[]⟩))=A' at r2
 have k1:mU h (h.push cA):=λb o e=>aO _ e
 have k2:mU (h.push cA) ((h.push cA).push (fZ 293 h.objs.size)):=λb o e=>aO _ e
 have kk:=k1.trans k2
 have Wp:=k2 _ _ (au h (o:=cA) rfl)
 have hx:((h.push cA).push (fZ 293 h.objs.size)).get? (h.objs.size+1)=aa (fZ 293 h.objs.size):=by
  have:=au (h.push cA) (o:=fZ 293 h.objs.size) rfl
  rwa [cw] at this
 generalize (h.push cA).push (fZ 293 h.objs.size)=g0 at kk Wp hx
 clear k1 k2
 have lx':n7 (h.objs.size::X) g0:=λb hb=>by
  rcases ao.mp hb with q|q
  ·subst q;exact ⟨_,Wp⟩
  ·exact (lx.keep kk) b q
 have off':sP w.params (h.objs.size::X):=λb hb=>by
  rcases ao.mp hb with q|q
  ·subst q
   exact zC B (l:=[h.objs.size]) (λa ha=>by rw [ak.mp ha];exact nF _) _ (.head _)
  ·exact hO b q
 refine xv (M:=[]) (X:=h.objs.size::X) (ns:=["self","headers"]) (qs:=.raw (.ref (h.objs.size+1))::qs) (Λ:=[]) ((B.keep kk).defAt (RO _)) r2.lim lx' (λz h=>nomatch h) (λz h=>nomatch h) ?_ (λz h=>nomatch h) (v6 (by kernel_rfl)) λL T3 k z z T7=> ?_
 ·refine Ul ⟨g0,g,d,t,os⟩ (B.keep kk) _ _ _ _ ⟨mO _,_,rfl,?_⟩
  exact mK.cons o9 (hq g0 kk)
 ·refine ab ((body L A' g0 kk hx Wp lx' ⟨B.keep kk,off',r2.deeper _,rfl,rfl,rfl⟩).run T3 T7) (λfl s' uu=>eA uu λe j=> ?_) λz z e=>e.elim
  refine oU k ?_;clear k;intro Uu Vn T1 _;obtain rfl:=T1
  refine rN e ?_;clear e;intro Uo Vy T1;obtain rfl:=T1
  exact j _ rfl ⟨Uo,Vy,rfl⟩
theorem Gh (r3:pt 3 A) (hI: ∀h,I h->oi w.params h) (hO:sP w.params X) (ok:E9 l):pV mu w A X I (.ref 293) [.list (hp l)] (.hdr (hp l)):=λs vs i lx r=>by
 refine mR (qJ r) λv T1 r1=> ?_;obtain rfl:=T1
 refine ni (pD r1) λD us T1 nD hl hr=> ?_;obtain rfl:=T1
 obtain ⟨h,g,d,t,os⟩:=s
 have B:=hI _ i
 have nd:h.objs.size∉X:=oP lx
 have nx:h.objs.size+1∉X:=λq=>let ⟨_,e⟩:=lx _ q;absurd (aR e) (i7.mpr (iy _))
 refine eo (DB (args:=[.ref D]) (dv:=[]) (qs:=[.raw (.ref D)]) r3 B lx hO (λs B=>.of_defaults rfl (B.frag 180 IT (by kernel_rfl)) rfl (by with_unfolding_all rfl) (by with_unfolding_all rfl)) (λz z=>mK.cons o9 mK.nil) λL A' g0 kk hx Wp lx' G=> ?_)
 refine mM (c:=mV tp 187 A' (h.objs.size::X) [] g0 L) (σ:=ql ["self","headers"] [.raw (.ref (h.objs.size+1)),.raw (.ref D)]) (Λ:=[]) (p:=.raw (.ref D)) ?_ ?_
 ·refine DV (c:=ai) ?_ (λz=>by walk_at "ev") (λe=>by exact ro e)
  refine mY (p:=.raw (.ref D)) (q:=.none) ?_ xe ?_
  ·walk_at "ev"
  ·exact vp λh v r=>by subst r;exact ⟨rfl,λe=>nomatch e⟩
 have VU:h.objs.size≠iZ:=λq=>by obtain ⟨m,⟨o,_,_,e,_⟩,_⟩:=B.lim;exact absurd (aR e) (by rw [q];exact bY _)
 have Wz:h.objs.size≠dh:=λq=>by obtain ⟨m,⟨o,_,_,e,_⟩,_⟩:=B.blt;exact absurd (aR e) (by rw [q];exact bY _)
 have WE:mK (h.objs.size::X) g0 (hp l) us:=by
  refine mK.keep kk (hr.sub λb hb uu=>eE uu λo e=> ?_)
  rcases ao.mp hb with q|q
  ·subst q;exact absurd (aR e) (bY _)
  ·exact q
 refine sX (CX (g:=g0) (g2:=g0) ok G hx Wp VU Wz (hl.at λo e=>kk _ _ e) WE (by walk_at "lk") (by walk_at "lk")) (λz i=>i) λfl h' uu s' hs' Wq=>rQ uu λe1 e2 e3=>⟨e1,?_⟩
 subst hs'
 have k3:mU h s'.heap:=λb o e=>e2 b o (λq=>by rw [ak.mp q] at e;exact absurd (aR e) (bY _)) (kk _ _ e)
 refine rN Wq ?_;clear Wq;intro Uo Vy T1;obtain rfl:=T1
 refine ⟨⟨Uo,Vy,rfl,k3⟩,?_⟩
 exact ⟨_,_,D,us,rfl,nx,nd,nD,e3,hl.at λo e=>k3 _ _ e,mK.keep k3 hr⟩
theorem FY (r3:pt 3 A) (B:oi w.params s.heap) (lx:n7 X s.heap) (hO:sP w.params X):
  aC (aI mu w) A (ft (.ref 293) []) (λv s'=>bB s s'/\ ∃a d D,v= .ref a/\a∉X/\d∉X/\oO s'.heap a d D/\s.heap.get? D=az/\s'.heap.get? D=aa {cls:=.type "list",data:=.seq #[]}) (λz z=>False) s:=by
 obtain ⟨h,g,d,t,os⟩:=s
 have nd:h.objs.size∉X:=oP lx
 have nx:h.objs.size+1∉X:=λq=>let ⟨_,e⟩:=lx _ q;absurd (aR e) (i7.mpr (iy _))
 refine eo (DB (args:=[]) (dv:=[.none]) (qs:=[.none]) r3 B lx hO (λs B=>.of_defaults rfl (B.frag 180 IT (by kernel_rfl)) rfl (by with_unfolding_all rfl) (by with_unfolding_all rfl)) (λz z=>mK.cons Ce mK.nil) λL A' g0 kk hx Wp lx' G=> ?_)
 refine DE (c:=mV tp 187 A' (h.objs.size::X) [] g0 L) (σ:=ql ["self","headers"] [.raw (.ref (h.objs.size+1)),.none]) (Λ:=[]) ?_ λD g2 k2 hD0 V7 nD=> ?_
 ·refine mY (p:=.none) (q:=.none) ?_ xe CF
  walk_at "ev"
 have VU:h.objs.size≠iZ:=λq=>by obtain ⟨m,⟨o,_,_,e,_⟩,_⟩:=B.lim;exact absurd (aR e) (by rw [q];exact bY _)
 have Wz:h.objs.size≠dh:=λq=>by obtain ⟨m,⟨o,_,_,e,_⟩,_⟩:=B.blt;exact absurd (aR e) (by rw [q];exact bY _)
 have hDd:D≠h.objs.size:=λq=>by rw [q] at V7;rw [k2 _ _ Wp] at V7;exact absurd (congrArg Obj.cls (am V7)) (by decide)
 refine sX (CX (l:=[]) (vs:=[]) (g:=g0) (g2:=g2) ⟨by decide,λq hq=>nomatch hq⟩ (G.at' k2) (k2 _ _ hx) (k2 _ _ Wp) VU Wz ⟨_,V7,rfl,_,rfl⟩ mK.nil (by walk_at "lk") (by walk_at "lk")) (λz i=>i) λfl h' uu s' hs' Wq=>rQ uu λe1 e2 e3=>⟨e1,?_⟩
 subst hs'
 have k3:mU h s'.heap:=λb o e=>e2 b o (λq=>by rw [ak.mp q] at e;exact absurd (aR e) (bY _)) (k2 _ _ (kk _ _ e))
 refine rN Wq ?_;clear Wq;intro Uo Vy T1;obtain rfl:=T1
 refine ⟨⟨Uo,Vy,rfl,k3⟩,_,_,D,rfl,nx,nd,e3,?_,e2 D _ (λq=>hDd (ak.mp q)) V7⟩
 cases e:h.get? D with
 |none=>rfl
 |some o=>have:=kk _ _ e;rw [show g0.get? D=az from hD0] at this;exact nE this
end
section
variable {w:av}
theorem Gz:ey rE ⟨[x,n,v],[]⟩=(alloc {cls:=.type "dict",data:=.dict #[]} >>= λd=>bG ((["self","_name","_value","_params"]:List Str).zip [x,n,v,.ref d])):=by kernel_rfl!
theorem EM: ∀h v,mP X h (.str x) v->plainIs v .none=ai/\v≠ .none:=λh v r=>by
 obtain ⟨t,rfl⟩:=nt r
 exact ⟨rfl,λe=>nomatch e⟩
set_option maxHeartbeats 1000000 in
theorem Ld (G:Gd w 2 (mV rE 290 A X [D] g0 L)) (t:oO g0 a d D) (hd:g0.get? P0=aa cA) (hs:(P0==sysModules)=false) (hl:l.length<=1000)
  (h1:nm.length<=100/\ ∀c∈nm,vt ai c=ai) (h2:vl.length<=100/\ ∀c∈vl,vt false c=ai):
  mT mu w (mV rE 290 A X [D] g0 L).env (mV rE 290 A X [D] g0 L).A (In (mV rE 290 A X [D] g0 L) (ql ["self","_name","_value","_params"] [.raw (.ref a),.str (S nm),.str (S vl),.raw (.ref P0)]) [(D,hp l)]) (nW (o0 16))
   (λfl h=>mU g0 h/\ ∃V8,h.PlainList D V8.toArray/\mK (mV rE 290 A X [D] g0 L).X h (hp (l++[(nm,vl)])) V8):=by
 have hz:=aw
 have G1:Gd w 1 (mV rE 290 A X [D] g0 L):=⟨G.base,G.off,G.room.less (by exact my (.l xI xM) [] []),rfl,rfl,rfl⟩
 refine zb λP gP nP=> ?_
 have hDX:D∈(mV rE 290 A X [D] g0 L).X:=ax _ (.tail _ (aM _ (.head _)))
 have Uk: ∀q∈[(D,hp l)],q.1≠P:=λq hq=>by rw [ak.mp hq];exact λe=>nP (e▸hDX)
 have t':oO ((mV rE 290 A X [D] g0 L).addOwn P).g a d D:=t
 have GP:=G1.addOwn P
 refine m9 (d:=ai) (mY (p:=.str (S vl)) (q:=.none) ?_ xe (vp EM)) (λz=> ?_) (λe=>by exact ro e)
 ·walk_at "ev"
 refine mM (p:=.str (S vl)) (zO GP (T:=vl) (b:=false) ?_ t' ?_ sF h2.2 (by have:=h2.1;exact (my (.i (.l xA xP) (.l xA xQ)) [_]) h2.1)) ?_
 ·walk_at "ev"
 ·walk_at "ev"
 refine BD (D:=P) (l:=[]) (p:=.str (S vl)) (by walk_at "lk") ?_ (by simp) Uk ?_
 ·walk_at "ev"
 refine ED "parts" (by walk_at "lk") Uk nP ?_
 refine o7 (σ':=[("parts",.list [.str (S vl)]),("self",.raw (.ref a)),("_name",.str (S nm)),("_params",.raw (.ref P0))]) (by walk_at "has") ?_
 refine v0 G1 (l:=([]:List Unit)) (V:=λz=>.none) (bs:=λz=>[]) (λz=>[("parts",.list [.str (S vl)]),("self",.raw (.ref a)),("_name",.str (S nm)),("_params",.raw (.ref P0))]) (λz=>[(D,hp l)])
  (J1 (Lj (by walk_at "ev") hd hs) hd G.room.1 (λb hb=>hb)) rfl rfl (λa is h=>nomatch h) (λi a g' is h=>by simp at h) ?_
 have hval:Txt.join (S [59,32]) (([vl]:List (List Nat)).map S)=S vl:=rfl
 refine Gc (D:=D) (l:=hp l) (p:=.tup [.str (S nm),.str (S vl)]) ?_ ?_ (by unfold hp;rw [ah];exact (my (.i (.l xA xQ) (.i (.e xB xL) (.l xA xB))) [_,_]) hl hz) (λq hq=>nomatch hq) ?_
 ·refine uH G1 ?_ t
  walk_at "ev"
 ·refine ou (mz ?_ (mz ?_ mI)) (by simp;exact (my (.i (.e xA xL) (.l xM xA)) [_]) hz)
  ·refine zO G1 (T:=nm) (b:=ai) ?_ t ?_ sF h1.2 (by have:=h1.1;exact (my (.i (.l xA xP) (.l xA xQ)) [_]) h1.1)
   ·walk_at "ev"
   ·walk_at "ev"
  ·refine rg (p:=.str (S [59,32])) (T:="str") ?_ oj F.plainAttrs_str F.slot_str_join F.type_str_join (mz (p:=.list (([vl].map S).map PV.str)) ?_ mI) (qw (v4 (ua ?_)) (by rw [hval]))
   ·exact m6 (by kernel_rfl)
   ·walk_at "ev"
   ·have:=h2.1;simp;exact (my (.i (.l xA xP) (.l xA (.c 999998))) [_]) h2.1
 ·refine sJ λh i=>⟨i.keep,?_⟩
  refine oV (i.lists _ (.head _)) λz vs pl rs=> ?_
  refine ⟨vs,pl,?_⟩
  rw [show hp (l++[(nm,vl)])=hp l++[.tup [.str (S nm),.str (S vl)]] by unfold hp;rw [bi];rfl]
  exact rs
theorem LK (r3:pt 3 A) (B:oi w.params s.heap) (lx:n7 X s.heap) (hO:sP w.params X) (hD:D∈X) (t:oO s.heap a d D) (pl:s.heap.PlainList D vs.toArray) (rs:mK X s.heap (hp l) vs)
  (hl:l.length<=1000) (h1:nm.length<=100/\ ∀c∈nm,vt ai c=ai) (h2:vl.length<=100/\ ∀c∈vl,vt false c=ai) (ru:mP X s.heap (.str (S nm)) u) (rz:mP X s.heap (.str (S vl)) z):
  aC (aI mu w) A (ft (.ref 290) [.ref a,u,z]) (λz s'=>nB s s'/\oH [D] s.heap s'.heap/\ ∃V8,s'.heap.PlainList D V8.toArray/\mK X s'.heap (hp (l++[(nm,vl)])) V8) (λz z=>False) s:=by
 have hz:=aw
 have hbig:333<s.heap.objs.size:=aR (B.frag 333 (fo pC) (by kernel_rfl))
 have off:sP w.params [D]:=λb hb=>hO b (by exact (ak.mp hb)▸hD)
 have hDlt:D<s.heap.objs.size:=by obtain ⟨_,e⟩:=pl;exact aR e
 have haD:a≠D:=λq=>by obtain ⟨_,e⟩:=pl;rw [<-q,t.obj] at e;have:=congrArg Obj.cls (am e);cases this
 have hdD:d≠D:=λq=>by
  obtain ⟨_,e⟩:=pl
  obtain ⟨od,e2,e3,_⟩:=t.dic
  rw [q,e] at e2;obtain rfl:=am e2;exact nE e3
 refine eo (wR (M:=[D]) (X:=X) (K:=λT0=>T0.heap.get? s.heap.objs.size=aa cA) (ns:=["self","_name","_value","_params"]) (qs:=[.raw (.ref a),.str (S nm),.str (S vl),.raw (.ref s.heap.objs.size)]) (Λ:=[(D,hp l)]) (B.defAt (DR _)) r3.lim lx (λb hb=>lx b (by exact (ak.mp hb)▸hD)) (λb hb=>by exact (ak.mp hb)▸hD) ?_ (λq hq=>by exact (ak.mp hq)▸(⟨.head _,vs,pl,rs⟩)) (v6 (by kernel_rfl)) λL T0 T3 T2 hK T4 z hL T7=> ?_)
 ·rw [Gz]
  have k:=mZ s {cls:=.type "dict",data:=.dict #[]} s.toks
  exact ae (wpAny_alloc (aj ⟨k,au _ rfl,_,rfl,mK.cons o9 (mK.cons (ru.keep (mG k)) (mK.cons (rz.keep (mG k)) (mK.cons o9 mK.nil)))⟩))
 have nD: ∀b,b≠D->b∉[D]:=λb h q=>h (ak.mp q)
 have hg: ∀b o,b≠D->T0.heap.get? b=aa o->(hideAll T0.heap [D]).get? b=aa o:=λb o nb e=>bS _ e (nD b nb)
 have Vb:oO (hideAll T0.heap [D]) a d D:=⟨hg _ _ haD (mG T2 _ _ t.obj),let ⟨od,e,r⟩:=t.dic;⟨od,hg _ _ hdD (mG T2 _ _ e),r⟩⟩
 have hdict:(hideAll T0.heap [D]).get? s.heap.objs.size=aa cA:=hg _ _ (λq=>by rw [<-q] at hDlt;exact bY _ hDlt) hK
 have Ws:oi w.params (hideAll T0.heap [D]):=by
  have B':=B.keep (mG T2)
  have VU:iZ≠D:=λq=>by
   obtain ⟨m,⟨o,es,ep,e,e2,_⟩,_⟩:=B.lim
   obtain ⟨_,e3⟩:=pl
   rw [q,e3] at e;obtain rfl:=am e;cases e2
  have Wz:dh≠D:=λq=>by
   obtain ⟨m,⟨o,es,ep,e,e2,_⟩,_⟩:=B.blt
   obtain ⟨_,e3⟩:=pl
   rw [q,e3] at e;obtain rfl:=am e;cases e2
  refine ⟨λb o e=>hg b o (λq=>by have:=hO D hD;rw [<-q,e] at this;exact tD this) (B'.frag b o e),B'.lim.at λo e=>hg _ _ VU e,?_⟩
  refine mR B'.blt λmb n r=> ?_
  exact ⟨mb,n.at' λo e=>hg _ _ Wz e,r⟩
 have G:Gd w 2 (mV rE 290 A X [D] (hideAll T0.heap [D]) L):=⟨Ws,hO,r3.deeper _,rfl,rfl,rfl⟩
 have G1:Gd w 1 (mV rE 290 A X [D] (hideAll T0.heap [D]) L):=⟨Ws,hO,(r3.deeper _).less (by exact my (.l xI xM) [] []),rfl,rfl,rfl⟩
 have hs:(s.heap.objs.size==sysModules)=false:=by
  rw [beq_eq_false_iff_ne]
  intro q
  rw [q] at hbig
  exact absurd hbig (by decide)
 refine ab ((Ld G Vb hdict hs hl h1 h2).run T3 T7) (λfl s' uu=>HJ uu λe kk V8 VG rs'=> ?_) λz z e=>e.elim
 refine oU T2 ?_;clear T2;intro Ub t1 T1 k1;obtain rfl:=T1
 refine oU T4 ?_;clear T4;intro Uu t2 T1 k2;obtain rfl:=T1
 refine rN e ?_;clear e;intro Uo t3 T1;obtain rfl:=T1
 refine ⟨⟨_,_,rfl⟩,λb o nb e=>kk b o (hg b o (λq=>nb (by exact q▸(.head _))) (k1 b o e)),V8,VG,rs'.sub λb hb z=>aM _ hb⟩
end
end
section
open PySem.Calls PyProof.Rows
section
variable {prog:aH} {w:av} {A:aX} {X:List aF}
open PySem.SeqAt
mutual
noncomputable def pd:PV->Option iu
 |.none=>aa .none
 |.bool b=>aa (.bool b)
 |.int i=>aa (.int i)
 |.str x=>aa (.str x)
 |.tup l=>(wU l).map .tuple
 |.list l=>(wU l).map .list
 |_=>jp
noncomputable def wU:List PV->Option (List iu)
 |[]=>aa []
 |p::ps=>match pd p,wU ps with
  |some d,aa ds=>aa (d::ds)
  |_,_=>jp
end
set_option tactic.hygienic true
mutual
theorem wm: ∀{p:PV} {v:ay} {d:iu},pd p=aa d->mP X h p v-> ∃as,Reads h v d as
 |.none,v,d,e,r=>by
  obtain rfl:=am e;subst r;exact ⟨_,.none⟩
 |.bool b,v,d,e,r=>by
  obtain rfl:=am e;subst r;exact ⟨_,.bool _⟩
 |.int i,v,d,e,r=>by
  obtain rfl:=am e;obtain ⟨t,rfl⟩:=r;exact ⟨_,.int _ _⟩
 |.str x,v,d,e,r=>by
  obtain rfl:=am e;obtain ⟨t,rfl⟩:=r;exact ⟨_,.str _ _⟩
 |.tup l,v,d,e,r=>by
  unfold pd at e;
  obtain ⟨a,vs,rfl,_,⟨o,ho,hc,n,hd⟩,q⟩:=r
  cases el:wU l with
  |none=>rw [el] at e;exact nE e
  |some ds=>
   rw [el] at e;obtain rfl:=am e
   obtain ⟨as,k⟩:=zc el q
   exact ⟨_,.tuple ho hc hd k⟩
 |.list l,v,d,e,r=>by
  unfold pd at e;
  obtain ⟨a,vs,rfl,_,⟨o,ho,hc,n,hd⟩,q⟩:=r
  cases el:wU l with
  |none=>rw [el] at e;exact nE e
  |some ds=>
   rw [el] at e;obtain rfl:=am e
   obtain ⟨as,k⟩:=zc el q
   exact ⟨_,.list ho hc hd k⟩
 |.float _,_,_,e,_=>by exact nE e
 |.fx _,_,_,e,_=>by exact nE e
 |.bytes _,_,_,e,_=>by exact nE e
 |.raw _,_,_,e,_=>by exact nE e
 |.inst _,_,_,e,_=>by exact nE e
 |.hdr _,_,_,e,_=>by exact nE e
theorem zc: ∀{ps:List PV} {vs:List ay} {ds:List iu},wU ps=aa ds->mK X h ps vs-> ∃as,ReadsAll h vs ds as
 |[],vs,ds,e,r=>by
  obtain rfl:=am e;subst r;exact ⟨_,.nil⟩
 |p::ps,vs,ds,e,r=>by
  unfold wU at e;
  refine nh r ?_;clear r;intro v us T1 a b;obtain rfl:=T1
  split at e
  ·rename_i d ds' e1 e2
   obtain rfl:=am e
   obtain ⟨_,k1⟩:=wm e1 a
   obtain ⟨_,k2⟩:=zc e2 b
   exact ⟨_,.cons k1 k2⟩
  ·exact nE e
end
set_option tactic.hygienic false
theorem Ei {p q:PV} {d e:iu} (hu:A.units+64<fw) (hp:pd p=aa d) (hq:pd q=aa e) (sd:shaped d=ai) (se:shaped e=ai):
  n0 prog w A X (bP .Eq) p q (.bool (da d e)):=λs x y z r k=>by
 obtain ⟨_,r⟩:=wm hp r;obtain ⟨_,k⟩:=wm hq k
 exact eq_dataH r k sd se hu ⟨mO _,by rfl⟩
theorem D4 {p q:PV} {d e:iu} (hu:A.units+64<fw) (hp:pd p=aa d) (hq:pd q=aa e) (sd:shaped d=ai) (se:shaped e=ai):
  n0 prog w A X (bP .NotEq) p q (.bool (!da d e)):=λs x y z r k=>by
 obtain ⟨_,r⟩:=wm hp r;obtain ⟨_,k⟩:=wm hq k
 exact ne_dataH r k sd se hu ⟨mO _,by rfl⟩
def GT (A:aX) (X:List aF) (p q:PV) (b:Bool):Prop:= ∀(s:aq) (v u:ay),mP X s.heap p v->mP X s.heap q u->EqAt A s v u b/\(v=u->b=ai)
def AZ (A:aX) (X:List aF) (l m:List PV) (b:Bool):Prop:= ∀(s:aq) (vs us:List ay),mK X s.heap l vs->mK X s.heap m us->
 vs.length=us.length/\(∃e:Nat->Bool,(∀j (h1:j<vs.length) (h2:j<us.length),EqAt A s vs[j] us[j] (e j))/\(ag vs.length).all e=b)/\(vs=us->b=ai)
theorem Fa {s:aq} {l b:aF} {k:Bool} (hs:l=b->k=ai) (h:RcAt A s (.ref l) (.ref b) k):EqAt A s (.ref l) (.ref b) k:=by
 by_cases e:l=b
 ·rw [hs e];subst e;exact EqAt.same _
 ·exact EqAt.of_refs e h
theorem vE:GT A X (.raw v) (.raw v) ai:=λs x u r q=>by
 subst r q
 exact ⟨EqAt.same _,λz=>rfl⟩
theorem AO:AZ A X [] [] ai:=λs vs us r q=>by
 subst r q
 exact ⟨rfl,⟨λz=>ai,λj h1=>absurd h1 (jM _),rfl⟩,λz=>rfl⟩
theorem sn (h:GT A X p q a) (hs:AZ A X l m b):AZ A X (p::l) (q::m) (a&&b):=λs vs us r k=>by
 refine nh r ?_;clear r;intro v V8 T1 r1 r2;obtain rfl:=T1
 refine nh k ?_;clear k;intro u Ww T1 k1 k2;obtain rfl:=T1
 refine eA (h s v u r1 k1) λh1 h1'=> ?_
 obtain ⟨hn,⟨e,he,hb⟩,hv⟩:=hs s V8 Ww r2 k2
 refine ⟨by simp [hn],⟨λj=>match j with|0=>a|j+1=>e j,?_,?_⟩,λhh=> ?_⟩
 ·intro j g1 g2
  cases j with
  |zero=>exact h1
  |succ j=>exact he j (by simpa using g1) (by simpa using g2)
 ·rw [aU,kr,iL,List.all_map,<-hb];rfl
 ·injection hh with e1 e2
  rw [h1' e1,hv e2];rfl
theorem F2 {h:aW} (p:h.IsList a x) (q:h.IsList a y):x=y:=by
 obtain ⟨o,e,c,n,d⟩:=p;obtain ⟨o',e',c',n',d'⟩:=q
 rw [e] at e';obtain rfl:=am e';rw [d] at d';injection d'
theorem Bu (p:IsTup h a x) (q:IsTup h a y):x=y:=by
 obtain ⟨o,e,c,n,d⟩:=p;obtain ⟨o',e',c',n',d'⟩:=q
 rw [e] at e';obtain rfl:=am e';rw [d] at d';injection d'
theorem K1 {l m:List PV} {b:Bool} (hu:A.units<fw) (h:AZ A.in1 X l m b): ∀(s:aq) (v u:ay),mP X s.heap (.list l) v->mP X s.heap (.list m) u->RcAt A s v u b/\(v=u->b=ai):=λs v u r q=>by
 refine ni r ?_;clear r;intro a vs T1 _ t r;obtain rfl:=T1
 refine ni q ?_;clear q;intro a' us T1 _ t' q;obtain rfl:=T1
 obtain ⟨hn,⟨e,he,hb⟩,hv⟩:=h s vs us r q
 refine ⟨?_,λhh=> ?_⟩
 ·have:=RcAt.lists (A:=A) (e:=e) t t' (by simpa using hn) hu (λj h1 h2=>by simpa using he j (by simpa using h1) (by simpa using h2))
  rw [<-hb];simpa using this
 ·cases hh
  exact hv (by simpa using F2 t t')
theorem NQ {l m:List PV} {b:Bool} (hu:A.units<fw) (h:AZ A.in1 X l m b): ∀(s:aq) (v u:ay),mP X s.heap (.tup l) v->mP X s.heap (.tup m) u->RcAt A s v u b/\(v=u->b=ai):=λs v u r q=>by
 refine ni r ?_;clear r;intro a vs T1 _ t r;obtain rfl:=T1
 refine ni q ?_;clear q;intro a' us T1 _ t' q;obtain rfl:=T1
 obtain ⟨hn,⟨e,he,hb⟩,hv⟩:=h s vs us r q
 refine ⟨?_,λhh=> ?_⟩
 ·have:=RcAt.tuples (A:=A) (e:=e) t t' hu (λj h1 h2=>by simpa using he j (by simpa using h1) (by simpa using h2))
  rw [<-hb];simpa [hn] using this
 ·cases hh
  exact hv (by simpa using Bu t t')
theorem GT.ofTup (hu:A.units<fw) (h:AZ A.in1 X l m b):GT A X (.tup l) (.tup m) b:=λs v u r q=>
 by
  obtain ⟨x,y⟩:=NQ hu h s v u r q
  refine oU r ?_;clear r;intro a vs T1 _;obtain rfl:=T1
  refine oU q ?_;clear q;intro a' us T1 _;obtain rfl:=T1
  exact ⟨Fa (λe=>y (by rw [e])) x,y⟩
theorem Gr (hu:A.units<fw) (h:AZ A.in1 X l m b):n0 prog w A X (bP .Eq) (.list l) (.list m) (.bool b):=λs x y z r k=>
 (K1 hu h s x y r k).1 prog w _ _ ⟨mO _,by rfl⟩
end
end
section
open PySem.Calls PyProof.Rows
section
variable {prog:aH} {w:av} {c:Sc} {σ:mX} {Λ:List (aF×List PV)}
theorem tz (hh:c.A.handled=az) (hx:autoParam (sA c x) XJ) (hy:autoParam (sA c y) XJ) (hz:autoParam (sA c z) XJ) (hk:autoParam (c.env.scope.kind= .function) XZ):
  zj prog w c (.Tuple [.Name x px,.Name y py,.Name z pz] k pos) (.tup [p,q,r]) [(z,r),(y,q),(x,p)]:=λσ Λ s v i r=>by
 refine ni r ?_;clear r;intro T vs T1 nT tT r;obtain rfl:=T1
 refine nh r ?_;clear r;intro a us T1 ra r;obtain rfl:=T1
 refine nh r ?_;clear r;intro b Ww T1 rb r;obtain rfl:=T1
 refine nh r ?_;clear r;intro d Ww T1 rd r;obtain rfl:=T1
 subst r
 refine wpAny_assign_Tuple hh tT rfl rfl λh' hE=> ?_
 have kk:mU s.heap h':=λb o e=>hE b o (dj (aR e)) e
 have T9:=i.mono kk
 refine ae (bL (dM (ab (rC (s:={s with heap:=h'}) T9 hx (mP.keep kk ra) hk) (λz T3 uu=>rQ uu λUD T7 T4=> ?_) λz z e=>e)))
 refine ae (bL (dM (ab (rC T7 hy ((mP.keep kk rb).keepX λb o nb e=>T4 b o (λq=>nb (ax _ q)) e) hk) (λz Ua uu=>rQ uu λUL Ui Uc=> ?_) λz z e=>e)))
 refine ae (bL (dM (ab (rC Ui hz (((mP.keep kk rd).keepX λb o nb e=>T4 b o (λq=>nb (ax _ q)) e).keepX λb o nb e=>Uc b o (λq=>nb (ax _ q)) e) hk) (λz Um uu=>rQ uu λVq UV Ux=> ?_) λz z e=>e)))
 exact aj ⟨(nB.trans ⟨h',s.toks,rfl⟩ (UD.trans (UL.trans Vq))),UV,λb o nb e=>Ux b o nb (Uc b o nb (T4 b o nb (kk _ _ e)))⟩
end
section
variable {prog:aH} {w:av} {A:aX} {X:List aF} {I:aW->Prop}
theorem IA (h:b≠0) (hb:b.natAbs<1073741824):pV prog w A X I (.builtin "divmod") [.int a,.int b] (.tup [.int (a.fdiv b),.int (a.fmod b)]):=λs vs z lx r=>by
 refine nh (sN r) λv u T1 r1 r2=> ?_;obtain rfl:=T1
 refine eE r1 ?_;clear r1;intro t T1;obtain rfl:=T1;refine eE r2 ?_;clear r2;intro t' T1;obtain rfl:=T1
 refine divmod_int h ?_ (.inl (jY hb))
 refine ⟨mZ s _ _,Eg (vs:=[.int (a.fdiv b) s.toks,.int (a.fmod b) (s.toks+1)]) (oP lx) ⟨_,au _ rfl,rfl,_,rfl⟩ (mK.cons tH (mK.cons tH mK.nil))⟩
theorem F7:n0 prog w A X (cf .Mult) (.int a) (.bool b) (.int (a*if b=ai then 1 else 0)):=λs x y z r q=>by
 refine eE r ?_;clear r;intro t T1;obtain rfl:=T1;subst q
 exact IntBool.mul_int_bool (qz rfl)
theorem Gk:Ps prog w A X (unaryOp .Not) (.bool b) (.bool (!b)):=λs x z r=>by
 subst r
 exact not_value (fO ⟨mO _,by rfl⟩)
end
section
variable {prog:aH} {w:av} {φ:Fs}
theorem Qm (hx:Ev prog w φ x p) (t:tO prog w φ.A φ.X p a) (hy:a=false->Ev prog w φ y q) (hr:r=if a then p else q):
  Ev prog w φ (.BoolOp .Or [x,y] pos) r:=.mk λs i=>
 wpAny_Or2 (ab (hx.run s i) (λv T0 uu=>eA uu λT2 T5=>ab (t T0 v T5) (λc T3 uu=>eA uu λT4 e=>by
  subst e
  cases c with
  |false=>subst hr;exact ab ((hy rfl).run T3 (φ.mono' i (mH T2 T4))) (λz z uu=>eA uu λUc Uj=>⟨mH T2 (mH T4 Uc),Uj⟩) λz z e=>e
  |true=>subst hr;exact ⟨mH T2 T4,T5.keep (mG T4)⟩) λz z e=>e) λz z e=>e)
theorem qQ (h:Ev prog w φ e (.raw v)) (hv: ∀g,mP φ.X g p v):Ev prog w φ e p:=.mk λs i=>
 ab (h.run s i) (λu T0 uu=>eA uu λk r=>⟨k,by subst r;exact hv _⟩) λz z e=>e
end
end
section
open PySem.Calls PyProof.Rows PySem.Builtin.Str
section
variable {w:av}
noncomputable def xl (r f:Int):List (Int×Int×Int):=[(128,r,0),(f,128,0),(0,128,r),(0,f,128),(r,0,128),(128,0,f)]
noncomputable def Nu (t:Int×Int×Int):PV:=.tup [.int t.1,.int t.2.1,.int t.2.2]
noncomputable def Tf:PV->Option PV
 |.tup [h,_,_]=>aa h
 |_=>az
def vk (p:Int):Option PV:=((xl ((6*p).fmod 128) (128 - (6*p).fmod 128))[((6*p).fdiv 128).toNat]?).bind λt=>(oz (.int t.1) (.int t.2.1) (.int t.2.2)).bind Tf
theorem Qf {G:Prop} (e:vk p=aa h) (k: ∀t y z,(xl ((6*p).fmod 128) (128 - (6*p).fmod 128))[((6*p).fdiv 128).toNat]? =aa t->oz (.int t.1) (.int t.2.1) (.int t.2.2)=aa (.tup [h,y,z])->G):G:=
 m4 e λt e1 e=>m4 e λu e2 e3=>by
  cases u with
  |tup l=>
   match l,e3 with
   |[x,y,z],e3=>obtain rfl:=am e3;exact k t y z e1 e2
  |_=>exact nE e3
theorem AR (h0:0<=p) (h1:p<128) (e:vk p=aa h):rH mu w 2 304 [.int p] h:=by
 refine Qf e λt y z e1 e2=> ?_
 clear e
 refine qD ["place"] (DU _) (λvs e=> ?_) (λA X g' L lx G=> ?_)
 ·refine eE (vi e) λj T1=> ?_;obtain rfl:=T1;kernel_rfl!
 ·have hh:(A.deeper (bf NH L 304)).handled=az:=G.room.1
  have hz:=aw
  have d0:0<=(6*p).fdiv 128:=by rw [bX _ (by decide)];exact (my (.i (.L xJ xA) (.L xJ (.d (.m 6 xA) 128))) [] [_]) h0
  have d1:(6*p).fdiv 128<6:=by rw [bX _ (by decide)];exact (my (.i (.B xA xR) (.B (.d (.m 6 xA) 128) (.c 6))) [] [_]) h1
  refine su (p:=.tup [.int ((6*p).fdiv 128),.int ((6*p).fmod 128)]) (n9 G (ps:=[.int (6*p),.int 128]) (by kernel_rfl) (by kernel_rfl) (mz (mJ (p:=.int 6) ?_ ?_ (Bc (.of_left (by decide+kernel)))) (mz ?_ mI)) (IA (by decide) (by decide))) (qS hh) ?_
  ·walk_at "ev"
  ·walk_at "ev"
  ·walk_at "ev"
  refine mM (p:=.int (128 - (6*p).fmod 128)) ?_ ?_
  ·walk_at "ev"
  refine mM (p:=.list ((xl ((6*p).fmod 128) (128 - (6*p).fmod 128)).map Nu)) (pX (ps:=(xl ((6*p).fmod 128) (128 - (6*p).fmod 128)).map Nu) (mz ?_ (mz ?_ (mz ?_ (mz ?_ (mz ?_ (mz ?_ mI)))))) (by simp [xl];exact (my (.i (.e xA xL) (.l (.c 6) xA)) [_]) hz)) ?_
  all_goals first|(refine ou (mz ?_ (mz ?_ (mz ?_ mI))) (by simp;exact (my (.i (.e xA xL) (.l xO xA)) [_]) hz)<;>walk_at "ev")|skip
  refine su (p:=Nu t) (nq (p:=.list ((xl ((6*p).fmod 128) (128 - (6*p).fmod 128)).map Nu)) (q:=.int ((6*p).fdiv 128)) ?_ ?_ (m5 d0 (by rw [a7,e1];rfl) (by exact (my (.i (.B xA (.c 6)) (.B xA xS)) [] [_]) d1))) (tz hh) ?_
  ·walk_at "ev"
  ·walk_at "ev"
  refine ng (nq (p:=.tup [h,y,z]) (q:=.int 0) (oE G (ps:=[.int t.1,.int t.2.1,.int t.2.2]) (by kernel_rfl) (vD _).e (mz ?_ (mz ?_ (mz ?_ mI))) (uO trivial trivial trivial e2)) mN (rI (by decide) rfl (by decide)))
  ·walk_at "ev"
  ·walk_at "ev"
  ·walk_at "ev"
end
end
section
open PySem.Calls PyProof.Rows
section
variable {prog:aH} {w:av} {c:Sc} {σ:mX} {Λ:List (aF×List PV)}
theorem OC {h:aW} (p:h.Ns a m) (q:h.Ns a m'):m=m':=by
 refine rZ p λo es ep e d z f=> ?_;refine rZ q λo' es' ep' e' d' z f'=> ?_
 rw [e] at e';obtain rfl:=am e';rw [d] at d';cases d'
 exact funext λx=>(f x).symm.trans (f' x)
theorem wn {α:Type} {l:List α} {V:α->PV} {bs:α->mX} (σf:mX) (t:α->Bool) (o:α->PV)
  (hi:uy prog w c σ Λ [] T8 iter (l.map V)) (hc:v9 c σ σf scope cl)
  (ha: ∀a C g T6,a∈l->zj prog w (nk c scope cl C g T6) T8 (V a) (bs a))
  (ht: ∀a C g T6,a∈l->mU c.g g->(∀b∈(nk c scope cl C g T6).own++T6,c.g.get? b=az)->zD prog w (fs (nk c scope cl C g T6) (bs a++σf) []) VH (t a))
  (he: ∀a C g T6,a∈l->t a=ai->mU c.g g->(∀b∈(nk c scope cl C g T6).own++T6,c.g.get? b=az)->sP w.params c.X->Ev prog w (fs (nk c scope cl C g T6) (bs a++σf) []) elt (o a))
  (hoff: ∀h,In c σ Λ h->sP w.params c.X)
  (hsz:l.length<=bn) (VI: ∀a∈l,(σf.all λq=>((bs a).lookup q.1).isNone)=ai)
  (Va:gK scope c.env=bG cl) (UW:vB c.env.cells cl) (UX:scope.kind= .function) (US: ∀y∈scope.names,y.2= .local->scope.names.lookup y.1=aa .local)
  (hb:mT prog w c.env c.A (In c ((y,.list ((l.filter t).map o))::σ) Λ) b J)
  (hx:autoParam (c.env.kindOf y=aa .local) XZ) (hk:autoParam (c.env.scope.kind= .function) XZ) (XD:autoParam (cJ (.ListComp elt [⟨T8,iter,VH,0⟩] scope pos) (aa (.Name y px)) Vi.line c.env=bG ai) XZ)
  (hs:autoParam (∀x,cO iter c.env x=bG x) X1):
  mT prog w c.env c.A (In c σ Λ) (.Assign [.Name y px] (.ListComp elt [⟨T8,iter,VH,0⟩] scope pos) Vi::b) J:=
 qT (I':=In c ((y,.list ((l.filter t).map o))::σ) Λ) (λs i=>by
  rw [exec_Assign_Name_used _ _ _ _ XD]
  refine ae (eD (ae ?_))
  refine ae (ab (DA (Q:=λz s'=>nB s s'/\In c ((y,.list ((l.filter t).map o))::σ) Λ s'.heap) σf t o hi hc (λa C g T6 h z=>ha a C g T6 h) ht (λa C g T6 ha ht hk hn=>he a C g T6 ha ht hk hn (hoff _ i)) hsz VI Va UW UX US hs i (use:=aa (lX (.Name y px) c.env)) λUa C v hC hns hf=> ?_) (λz s' hq=>aj (aj hq)) λz z e=>e)
  refine eE hns λmC nC=> ?_
  have hLC:c.env.locals≠C:=λq=>by
   obtain ⟨o,e⟩:=i.live _ i.locOwn
   rw [q,hC] at e;exact nE e
  refine eA (hf Ua.heap ⟨rfl,λz z=>rfl⟩) λUK WG=> ?_
  have Ui:=i.mono (mG UK)
  refine mR Ui.loc λm₀ Xa hm₀=> ?_
  refine dM (iO hx Xa (λUb WL sb1=>⟨mC,nC.sameBut sb1 hLC.symm,λh' sb'=> ?_⟩) (by rw [hk];rfl))
  refine vX (id Xa) λoL esL epL eL dL rL=> ?_
  refine wD (id WL) λoL' z z eL' z=> ?_
  have e':h'.get? c.env.locals=aa oL':=(sb'.2 _ hLC).trans eL'
  have hfr:oL.isFreed=false:=(aW.get?_some_iff.mp eL).2
  have WK:(h'.update c.env.locals λz=>oL).objs.size=h'.objs.size:=by cases h';simp [aW.update]
  have kl:cL c.env.locals (h'.update c.env.locals λz=>oL) h':=⟨WK.symm,λb hb=>(df h' _ (Ne.symm hb)).symm⟩
  have kb:cL C Ua.heap (h'.update c.env.locals λz=>oL):=⟨by rw [WK,sb'.1,sb1.1],λb hb=>by
   by_cases q:b=c.env.locals
   ·rw [q,cr _ e' hfr,eL]
   ·rw [df h' _ (Ne.symm q),sb'.2 b hb,sb1.2 b q]⟩
  refine eA (hf _ kb) λT2 T5=> ?_
  have UV:=i.mono (mG T2)
  refine mR UV.loc λm₄ n₄ hm₄=> ?_
  have em:m₄=m₀:=OC n₄ (Xa.sameBut kb hLC)
  subst em
  exact ⟨(nB.of UK).trans ⟨_,_,rfl⟩,UV.store hx n₄ hm₄ (WL.sameBut sb' hLC) kl T5⟩) hb
end
end
section
open PySem.Calls PyProof.Rows PySem.Builtin.Str
section
variable {w:av}
noncomputable def Nw (p:PV):Option Fx:=match p with
 |.fx f=>aa f
 |_=>az
def qr (t:PV):Option (Fx×Fx×Fx):=match t with
 |.tup l=>match l with
  |[a,b,c]=>(Nw a).bind λa=>(Nw b).bind λb=>(Nw c).bind λc=>aa (a,b,c)
  |_=>az
 |_=>az
theorem AI {p:PV} (e:Nw p=aa f):p= .fx f:=by
 cases p<;>cases e;rfl
theorem vW (e:qr t=aa q):t= .tup [.fx q.1,.fx q.2.1,.fx q.2.2]:=by
 cases t with
 |tup l=>
  match l with
  |[a,b,c]=>
   refine m4 e λx e1 e=>m4 e λy e2 e=>m4 e λz e3 e=> ?_
   rw [AI e1,AI e2,AI e3];obtain rfl:=am e;rfl
 |_=>exact nE e
def Ie (r g b:Fx) (UP:PV) (s v:Fx):Option (Bool×PV):=(uL (.fx r) (.fx g) (.fx b)).bind λt=>(qr t).bind λq=>(pF (.int 2) (.fx q.2.1)).bind λa=>(nR (.int 2) (.fx s)).bind λc=>(pF (.fx v) c).bind λd=>
 (qE (.fx q.1) UP).bind λh=>(wa h (.fx q.2.1) (.fx q.2.2)).bind λu=>aa (rS a d,u)
def H0 (r g b:Fx) (UP:PV):Option (Bool×PV):=(oz (.fx r) (.fx g) (.fx b)).bind λt=>(qr t).bind λq=>(qE (.fx q.1) UP).bind λh=>(ss h (.fx q.2.1) (.fx q.2.2)).bind λu=>aa (ai,u)
def nZ (f:Fx):Option Int:=(pF (.int 256) (.fx f)).bind λa=>(qE a (.int 1)).bind λc=>match c with
 |.fx g=>Option.map (λn:Nat=>Int.fdiv (ff n) 2) (Ic g)
 |_=>az
def wQ (p a:Int) (by_:Int) (s v:Fx):Option Int:=(vk p).bind λh=>(ss h (.fx s) (.fx v)).bind λt=>(qr t).bind λq=>(vk a).bind λUP=>
 (cond (by_ !=0) (Ie q.1 q.2.1 q.2.2 UP s v) (H0 q.1 q.2.1 q.2.2 UP)).bind λz=>(qr z.2).bind λq'=>(oz (.fx q'.1) (.fx q'.2.1) (.fx q'.2.2)).bind λy=>(qr y).bind λu=>
 (nZ u.1).bind λa0=>(nZ u.2.1).bind λa1=>(nZ u.2.2).bind λa2=>(nZ s).bind λb1=>(nZ v).bind λb2=>
 aa ((a0+64*(if (!(a1==b1&&a2==b2)|| !z.1)=ai then 1 else 0)).fmod 128)
theorem HA (h:pF p q=aa x):uw x=ai:=by
 refine uB (wl h) λf g k a b c d T1=> ?_;obtain rfl:=T1;rfl
theorem Gd.comp (G:Gd w n c) (ho:sP w.params c.X) (k:mU c.g g) (hn: ∀b∈(nk c scope cl C g T6).own++T6,c.g.get? b=az) (hf:(nk c scope cl C g T6).env.scope.kind= .function):
  Gd w n (nk c scope cl C g T6):=⟨G.base.keep k,CG (zC G.base λb hb=>hn b (aM _ hb)) ho,G.room,hf,G.gl,G.bl⟩
def nG (f:Fx):Int:=(nZ f).getD 0
theorem vS (e:nZ f=aa a):nZ f=aa (nG f):=by unfold nG;rw [e];rfl
theorem Do (G:Gd w n c) {l:List Fx} {qa qb qc qd qe qf qg qh qi qj qk px Vi:Pos} (hl: ∀f∈l,nZ f=aa (nG f)) (hz:l.length<=10)
  (hi:uy mu w c σ Λ [] (.Name "part" qa) iter (l.map .fx)) (UW:gK sc c.env=bG [])
  (hkf:sc.kind= .function) (hp: ∀C g T6,sA (nk c sc [] C g T6) "part") (hfn: ∀C g T6,(nk c sc [] C g T6).env.scope.kind= .function) (hki: ∀C g T6,(nk c sc [] C g T6).env.kindOf "int"=aa .globalImplicit)
  (Xy: ∀y∈sc.names,y.2= .local->sc.names.lookup y.1=aa .local) (hs: ∀x,cO iter c.env x=bG x)
  (hb:mT mu w c.env c.A (In c ((y,.list (l.map λf=>.int (nG f)))::σ) Λ) b J)
  (hy:c.env.kindOf y=aa .local) (XD:cJ (.ListComp (.BinOp (.Call (.Name "int" qb) [.BinOp (.BinOp (.Constant (.int 256) k1 qc) .Mult (.Name "part" qd) qe) .Add (.Constant (.int 1) k2 qf) qg] [] qh) .FloorDiv (.Constant (.int 2) k3 qi) qj) [⟨.Name "part" qa,iter,[],0⟩] sc qk) (aa (.Name y px)) Vi.line c.env=bG ai):
  mT mu w c.env c.A (In c σ Λ) (.Assign [.Name y px] (.ListComp (.BinOp (.Call (.Name "int" qb) [.BinOp (.BinOp (.Constant (.int 256) k1 qc) .Mult (.Name "part" qd) qe) .Add (.Constant (.int 1) k2 qf) qg] [] qh) .FloorDiv (.Constant (.int 2) k3 qi) qj) [⟨.Name "part" qa,iter,[],0⟩] sc qk) Vi::b) J:=by
 have XG:=aw
 refine wn (l:=l) (V:=.fx) (bs:=λf=>[("part",.fx f)]) (cl:=[]) [] (λz=>ai) (λf=>.int (nG f)) hi nJ (λf C g T6 z=>nO (hp C g T6) (hfn C g T6)) (λf C g T6 z z z=>og) (λf C g T6 hf z k hn ho=> ?_) (λh i=>G.offX i) (by exact (my (.i (.l xA (.c 10)) (.i (.e xB xL) (.l xA xB))) [_,_]) hz XG) (λz z=>rfl) UW trivial hkf Xy (by exact (bW.mpr (λz z=>rfl))▸hb) hy G.fn XD hs
 have G':=Gd.comp G ho k hn (hfn C g T6)
 have e:=hl f hf
 refine mR (bd.mp e) λa e1 e=> ?_
 refine mR (bd.mp e) λb e2 e=> ?_
 cases b with
 |fx y=>
  refine mR (dT.mp e) λm e3 e4=> ?_
  rw [<-e4]
  refine mJ (p:=.int m) (q:=.int 2) (n9 G' (v:=.type "int") (ps:=[.fx y]) (by kernel_rfl) (by kernel_rfl) (mz (mJ (p:=a) (q:=.int 1) (mJ (p:=.int 256) (q:=.fx f) mN ?_ (pH e1)) mN (qB e2)) mI) (Bv e3) (.inr ⟨_,rfl⟩) (by decide+kernel) (hki C g T6)) mN (oZ (by decide) (by decide))
  exact nw (by walk_at "lk") (hfn C g T6)
 |_=>exact nE e
set_option maxHeartbeats 2000000 in
structure RN (p a b:Int) (s v:Fx) (r:Int) (h UP:PV) (q q' u:Fx×Fx×Fx) (half:Bool):Prop where
 e1:vk p=aa h
 e2:ss h (.fx s) (.fx v)=aa (.tup [.fx q.1,.fx q.2.1,.fx q.2.2])
 e4:vk a=aa UP
 e5:cond (b !=0) (Ie q.1 q.2.1 q.2.2 UP s v) (H0 q.1 q.2.1 q.2.2 UP)=aa (half,.tup [.fx q'.1,.fx q'.2.1,.fx q'.2.2])
 e7:oz (.fx q'.1) (.fx q'.2.1) (.fx q'.2.2)=aa (.tup [.fx u.1,.fx u.2.1,.fx u.2.2])
 f0: ∀f∈[u.1,u.2.1,u.2.2],nZ f=aa (nG f)
 f3: ∀f∈[s,v],nZ f=aa (nG f)
 eF:(nG u.1+64*(if (!(nG u.2.1==nG s&&nG u.2.2==nG v)|| !half)=ai then 1 else 0)).fmod 128=r
theorem wb (e:nZ f=aa n):nG f=n:=by unfold nG;rw [e];rfl
theorem Iq (e:wQ p a b s v=aa r): ∃h UP q q' u half,RN p a b s v r h UP q q' u half:=by
 exact m4 e λh e1 e=>m4 e λt e2 e=>m4 e λq e3 e=>m4 e λUP e4 e=>m4 e λz e5 e=>m4 e λq' e6 e=>m4 e λy e7 e=>m4 e λu e8 e=>
  m4 e λt0 f0 e=>m4 e λt1 f1 e=>m4 e λt2 f2 e=>m4 e λk1 f3 e=>m4 e λk2 f4 eF=>
  ⟨h,UP,q,q',u,z.1,e1,e2.trans (congrArg aa (vW e3)),e4,e5.trans (congrArg aa (eU rfl (vW e6))),e7.trans (congrArg aa (vW e8)),
   eH.mpr ⟨vS f0,eH.mpr ⟨vS f1,eH.mpr ⟨vS f2,λz h=>nomatch h⟩⟩⟩,
   eH.mpr ⟨vS f3,eH.mpr ⟨vS f4,λz h=>nomatch h⟩⟩,by rw [wb f0,wb f1,wb f2,wb f3,wb f4];exact am eF⟩
structure PS (r g b:Fx) (UP:PV) (s v:Fx) (half:Bool) (z:PV) (q:Fx×Fx×Fx) (a c d h:PV):Prop where
 k1:uL (.fx r) (.fx g) (.fx b)=aa (.tup [.fx q.1,.fx q.2.1,.fx q.2.2])
 k3:pF (.int 2) (.fx q.2.1)=aa a
 k4:nR (.int 2) (.fx s)=aa c
 k5:pF (.fx v) c=aa d
 k6:qE (.fx q.1) UP=aa h
 k7:wa h (.fx q.2.1) (.fx q.2.2)=aa z
 k8:half=rS a d
theorem JP (e:Ie r g b UP s v=aa (half,z)): ∃q a c d h,PS r g b UP s v half z q a c d h:=by
 exact m4 e λt k1 e=>m4 e λq k2 e=>m4 e λa k3 e=>m4 e λc k4 e=>m4 e λd k5 e=>m4 e λh k6 e=>m4 e λu k7 e=>by
  cases e
  exact ⟨q,a,c,d,h,k1.trans (congrArg aa (vW k2)),k3,k4,k5,k6,k7,rfl⟩
structure Qd (r g b:Fx) (UP:PV) (half:Bool) (z:PV) (q:Fx×Fx×Fx) (h:PV):Prop where
 k1:oz (.fx r) (.fx g) (.fx b)=aa (.tup [.fx q.1,.fx q.2.1,.fx q.2.2])
 k6:qE (.fx q.1) UP=aa h
 k7:ss h (.fx q.2.1) (.fx q.2.2)=aa z
 k8:ai=half
theorem Ih (e:H0 r g b UP=aa (half,z)): ∃q h,Qd r g b UP half z q h:=by
 exact m4 e λt k1 e=>m4 e λq k2 e=>m4 e λh k6 e=>m4 e λu k7 e=>by
  cases e
  exact ⟨q,h,k1.trans (congrArg aa (vW k2)),k6,k7,rfl⟩
theorem Gw (p0:0<=p) (p1:p<128) (a0:0<=a) (a1:a<128) (e:wQ p a b s v=aa r):rH mu w 3 309 [.int p,.int a,.int b,.fx s,.fx v] (.int r):=by
 refine OI (Iq e) λh UP q q' u half T=> ?_
 have hz: ∀l:List PV,l.length<=3->l.length<=bn:=λl h=>ch h (by rw [aw];decide)
 refine qD ["place","ahead","by_hls","share","value"] (Nf _) (λvs e=> ?_) (λA X g' L lx G=> ?_)
 ·refine JR (SU e) λz z z z z T1=> ?_;obtain rfl:=T1;kernel_rfl!
 have hh:(A.deeper (bf zx L 309)).handled=az:=G.room.1
 have hu:(A.deeper (bf zx L 309)).units+64<fw:=by have:=G.room.2.2;simp only [mV] at this;exact (my (.i (.b (.a (.a xA (.m 10 xM)) xP) xB) (.b (.a xA (.c 64)) xB)) [_,_]) this
 have G2:Gd w 2 (mV zx 309 A X [] g' L):=⟨G.base,G.off,G.room.less (by decide),rfl,rfl,rfl⟩
 have G1:Gd w 1 (mV zx 309 A X [] g' L):=⟨G.base,G.off,G.room.less (by decide),rfl,rfl,rfl⟩
 refine su (p:=.tup [.fx q.1,.fx q.2.1,.fx q.2.2]) (oE G2 (ps:=[h,.fx s,.fx v]) (by kernel_rfl) (DW _).e (mz (oE G2 (ps:=[.int p]) (by kernel_rfl) (DU _).e (mz ?_ mI) (AR p0 p1 T.e1)) (mz ?_ (mz ?_ mI))) (A6 rfl T.e2)) (tz hh) ?_
 ·walk_at "ev"
 ·walk_at "ev"
 ·walk_at "ev"
 refine mM (p:=UP) (oE G2 (ps:=[.int a]) (by kernel_rfl) (DU _).e (mz ?_ mI) (AR a0 a1 T.e4)) ?_
 ·walk_at "ev"
 refine mM (p:=.bool ai) sF ?_
 refine (λtail=>m9 (d:=b !=0) ?e0 (λc1=>GG (I':=In (mV zx 309 A X [] g' L) [("half",.bool half),("red",.fx q'.1),("green",.fx q'.2.1),("blue",.fx q'.2.2),("share",.fx s),("value",.fx v)] []) ?e1 tail) (λc1=>GG ?e2 tail)) ?tail
 case e0=>
  refine ry (p:=.int b) ?_ JG
  walk_at "ev"
 case e1=>
  refine JR (JP (by have:=T.e5;rw [c1] at this;exact this)) λq2 x1 x2 x3 x4 H=> ?_
  refine su (p:=.tup [.fx q2.1,.fx q2.2.1,.fx q2.2.2]) (oE G1 (ps:=[.fx q.1,.fx q.2.1,.fx q.2.2]) (by kernel_rfl) (DZ _).e (mz ?_ (mz ?_ (mz ?_ mI))) (FW trivial trivial trivial H.k1)) (tz hh) ?_
  ·walk_at "ev"
  ·walk_at "ev"
  ·walk_at "ev"
  refine mM (p:=.bool half) (mQ (uX (p:=x1) (q:=x3) (mJ (p:=.int 2) (q:=.fx q2.2.1) ?_ ?_ (pH H.k3)) (mJ (p:=.fx v) (q:=x2) ?_ (mJ (p:=.int 2) (q:=.fx s) ?_ ?_ (nQ H.k4)) (pH H.k5)) (tK (HA H.k3) (HA H.k5))) (congrArg PV.bool H.k8.symm)) ?_
  ·walk_at "ev"
  ·walk_at "ev"
  ·walk_at "ev"
  ·walk_at "ev"
  ·walk_at "ev"
  refine su (p:=.tup [.fx q'.1,.fx q'.2.1,.fx q'.2.2]) (oE G2 (ps:=[x4,.fx q2.2.1,.fx q2.2.2]) (by kernel_rfl) (H8 _).e (mz (mJ (p:=.fx q2.1) (q:=UP) ?_ ?_ (qB H.k6)) (mz ?_ (mz ?_ mI))) (Ey rfl H.k7)) (tz hh) (sJ λh i=>i.has ?_)
  ·walk_at "ev"
  ·walk_at "ev"
  ·walk_at "ev"
  ·walk_at "ev"
  ·walk_at "has"
 case e2=>
  refine rN (Ih (by have:=T.e5;rw [c1] at this;exact this)) λq2 x4 H=> ?_
  cases H.k8
  refine su (p:=.tup [.fx q2.1,.fx q2.2.1,.fx q2.2.2]) (oE G1 (ps:=[.fx q.1,.fx q.2.1,.fx q.2.2]) (by kernel_rfl) (vD _).e (mz ?_ (mz ?_ (mz ?_ mI))) (uO trivial trivial trivial H.k1)) (tz hh) ?_
  ·walk_at "ev"
  ·walk_at "ev"
  ·walk_at "ev"
  refine su (p:=.tup [.fx q'.1,.fx q'.2.1,.fx q'.2.2]) (oE G2 (ps:=[x4,.fx q2.2.1,.fx q2.2.2]) (by kernel_rfl) (DW _).e (mz (mJ (p:=.fx q2.1) (q:=UP) ?_ ?_ (qB H.k6)) (mz ?_ (mz ?_ mI))) (A6 rfl H.k7)) (tz hh) (sJ λh i=>i.has ?_)
  ·walk_at "ev"
  ·walk_at "ev"
  ·walk_at "ev"
  ·walk_at "ev"
  ·walk_at "has"
 case tail=>
  refine Do (l:=[u.1,u.2.1,u.2.2]) G1 T.f0 (by simp) (Hz (ps:=[u.1,u.2.1,u.2.2].map PV.fx) (oE G1 (ps:=[.fx q'.1,.fx q'.2.1,.fx q'.2.2]) (by kernel_rfl) (vD _).e (mz ?_ (mz ?_ (mz ?_ mI))) (uO trivial trivial trivial T.e7)) hh (λz h=>nomatch h)) rfl rfl (λC g T6=>.inl rfl) (λC g T6=>rfl) (λC g T6=>rfl) (by decide+kernel) (λx=>rfl) ?_ rfl rfl
  ·walk_at "ev"
  ·walk_at "ev"
  ·walk_at "ev"
  refine Do (l:=[s,v]) G1 T.f3 (by simp) (Hz (ps:=[s,v].map PV.fx) (ou (ps:=[.fx s,.fx v]) (mz ?_ (mz ?_ mI)) (hz _ (by simp))) hh (λz h=>nomatch h)) rfl rfl (λC g T6=>.inl rfl) (λC g T6=>rfl) (λC g T6=>rfl) (by decide+kernel) (λx=>rfl) ?_ rfl rfl
  ·walk_at "ev"
  ·walk_at "ev"
  refine ng (mQ (mJ (p:=.int (nG u.1+64*(if (!(nG u.2.1==nG s&&nG u.2.2==nG v)|| !half)=ai then 1 else 0))) (q:=.int 128) (mJ (p:=.int (nG u.1)) (q:=.int (64*(if (!(nG u.2.1==nG s&&nG u.2.2==nG v)|| !half)=ai then 1 else 0))) (nq (p:=.list [.int (nG u.1),.int (nG u.2.1),.int (nG u.2.2)]) (q:=.int 0) ?_ mN (m5 (by decide) rfl (by decide))) (mJ (p:=.int 64) (q:=.bool (!(nG u.2.1==nG s&&nG u.2.2==nG v)|| !half)) mN (Qm (p:=.bool (!(nG u.2.1==nG s&&nG u.2.2==nG v))) (q:=.bool (!half)) (a:= !(nG u.2.1==nG s&&nG u.2.2==nG v)) (uX (p:=.list [.int (nG u.2.1),.int (nG u.2.2)]) (q:=.list [.int (nG s),.int (nG v)]) (mQ (tA (ps:=[.int (nG u.1),.int (nG u.2.1),.int (nG u.2.2)]) (lo:=aa 1) (hi:=az) ?_ (nY mN) rG (hz _ (by simp))) rfl) ?_ (te (D4 hu rfl rfl rfl rfl) (by simp [da,gr]))) qu (λz=>rX (p:=.bool half) ?_ Gk) ?_) F7) nV) mN (oq (by decide))) (congrArg PV.int T.eF))
  ·walk_at "ev"
  ·walk_at "ev"
  ·walk_at "ev"
  ·walk_at "ev"
  ·cases (nG u.2.1==nG s&&nG u.2.2==nG v)<;>rfl
end
section
variable {w:av}
abbrev IL:=List Int
noncomputable def sg (l:IL):List PV:=l.map PV.int
def il (l:IL):PV:=.list (sg l)
noncomputable def m8 (rows:List IL) (i:Nat):IL:=(rows[i]?).getD []
def qm (rows:List IL) (last n k:Nat):IL:=(ag k).foldl (λt i=>t++aG ((m8 rows (n+1+i)).length - (m8 rows (n+i)).length) ((last:Int) - ((n+1+i:Nat):Int)+1)) []
noncomputable def uc (sh:Int) (WT:IL):IL:=(dF (WT++[0]) (0::WT)).map λq=>q.1+sh*q.2
def tq (rows:List IL) (last n i:Nat):IL:=aG i ((last:Int) - n)++aG ((m8 rows n).length - 2 - i) ((last:Int) - n+1)++qm rows last n (last - n)
def qH (x:Int) (U5:IL):IL:=U5.foldl (λs sh=>uc sh s) [x]
noncomputable def AX (t s:IL):IL:=(dF t s).map λq=>q.1+q.2
def rY (rows:List IL) (last n k:Nat) (U0:IL):IL:=(ag k).foldl (λt i=>AX t (qH ((m8 rows n)[i]?.getD 0) (tq rows last n i))) U0
def rK (rows:List IL) (last k:Nat):IL:=(ag k).foldl (λt n=>rY rows last n ((m8 rows n).length - 1) t) (aG ((m8 rows last).length - 1) 0)
def zG (rows:List IL):IL:=((m8 rows (rows.length - 1)).getLast?.getD 0::rK rows (rows.length - 1) rows.length).map λx=>x.fmod 128
theorem uN (rows:List IL) (last n k:Nat):qm rows last n (k+1)=qm rows last n k++aG ((m8 rows (n+1+k)).length - (m8 rows (n+k)).length) ((last:Int) - ((n+1+k:Nat):Int)+1):=by
 unfold qm;rw [cy,dc];rfl
theorem w1 (rows:List IL) (last n k:Nat) (U0:IL):rY rows last n (k+1) U0=AX (rY rows last n k U0) (qH ((m8 rows n)[k]?.getD 0) (tq rows last n k)):=by
 unfold rY;rw [cy,dc];rfl
theorem y9 (rows:List IL) (last k:Nat):rK rows last (k+1)=rY rows last k ((m8 rows k).length - 1) (rK rows last k):=by
 unfold rK;rw [cy,dc];rfl
theorem II (sh:Int) (s:IL):(uc sh s).length=s.length+1:=by unfold uc;simp
theorem Gj (x:Int) (U5:IL) (k:Nat) (sh:Int) (e:U5[k]? =aa sh):qH x (U5.take (k+1))=uc sh (qH x (U5.take k)):=by
 unfold qH;rw [gz,e];simp [dc]
theorem BK (x:Int) (U5:IL):(qH x U5).length=U5.length+1:=by
 unfold qH
 have: ∀(l:IL) (s:IL),(l.foldl (λs sh=>uc sh s) s).length=s.length+l.length:=by
  intro l
  induction l with
  |nil=>intro s;rfl
  |cons a l ih=>intro s;rw [eY,ih,II,aU];exact my (.e (.a (.a xA xI) xB) (.a xA (.a xB xI))) [_,_]
 rw [this];simp;exact my (.e (.a xI xA) (.a xA xI)) [_]
theorem Mp (t s:IL):(AX t s).length<=t.length:=by unfold AX;simp;exact my (.l (.n xA xB) xA) [_,_]
theorem xn (rows:List IL) (last n:Nat) (U0:IL): ∀k,(rY rows last n k U0).length<=U0.length
 |0=>aN _
 |k+1=>by rw [w1];exact ch (Mp _ _) (xn rows last n U0 k)
theorem AK (rows:List IL) (last:Nat): ∀k,(rK rows last k).length<=(m8 rows last).length - 1
 |0=>by unfold rK;simp
 |k+1=>by rw [y9];exact ch (xn _ _ _ _ _) (AK rows last k)
theorem vg {rows:List IL} (h: ∀r∈rows,r.length<=5) (i:Nat):(m8 rows i).length<=5:=by
 unfold m8
 cases e:rows[i]? with
 |none=>simp
 |some r=>exact h r (br e)
theorem yf {rows:List IL} (h: ∀r∈rows,r.length<=5) (last n:Nat): ∀k,(qm rows last n k).length<=5*k
 |0=>by unfold qm;simp
 |k+1=>by
  rw [uN,af,a8]
  have:=yf h last n k
  have:=vg h (n+1+k)
  exact (my (.i (.l xA (.m 5 xD)) (.i (.l xB xN) (.l (.a xA (.s xB xC)) (.m 5 (.a xD xI))))) [_,_,_,_]) (by assumption) this
theorem yk (h:i<rows.length):(rows.map il)[i]? =aa (il (m8 rows i)):=by
 unfold m8;rw [a7,aA h];rfl
theorem zJ (a b:IL):sg (a++b)=sg a++sg b:=bi
theorem zM (n:Nat) (x:Int):sg (aG n x)=(aG n [PV.int x]).flatten:=by
 unfold sg;rw [fa,List.flatten_replicate_singleton]
theorem o6 (a:IL):(sg a).length=a.length:=ah _
noncomputable def pr (q:Int×Int):PV:=.tup [.int q.1,.int q.2]
theorem Eb: ∀a b:IL,(jg (λp q=>[p,q]) (sg a) (sg b)).map PV.tup=(dF a b).map pr
 |[],_=>rfl
 |_::_,[]=>rfl
 |x::a,y::b=>by
  exact congrArg _ (Eb a b)
theorem KG (rows:List IL):(((rows.map il).mapIdx λi p=>[PV.int i,p]).map PV.tup)=(ag rows.length).map λ(n:Nat)=>PV.tup [.int n,il (m8 rows n)]:=by
 apply gO
 ·simp
 ·intro i h1 h2
  have hi:i<rows.length:=by simpa using h1
  simp [m8,aA hi]
theorem Ay {α β:Type} (l:List α) (o:α->β):(l.filter λz=>ai).map o=l.map o:=by rw [bW.mpr (λz z=>rfl)]
theorem FH (hp:ps.getLast? =aa p):n0 prog w A X (dS value Uw) (.list ps) (.int (-1)) p:=λs x y z r q=>by
 refine ni r ?_;clear r;intro a vs T1 ha hl rs;obtain rfl:=T1;obtain ⟨u,rfl⟩:=q
 rw [j3] at hp
 have Ue:ps.length - 1<ps.length:=(aT.mp hp).1
 refine mR (rs.get hp) λv e rv=> ?_
 have hsz:=rs.len
 refine vG hl.typeIs fP.lookup (wpAny_getItem_list_neg hl (by decide) (by simp;exact (my (.i (.b (.s xB xI) xB) (.i (.e xA xB) (.L xI (.k xA)))) [_,_]) Ue hsz) (by decide) (x:=v) ?_ ⟨mO _,rv⟩)
 have:((-1:Int)+(vs.toArray.size:Nat)).toNat=ps.length - 1:=by simp;exact (my (.i (.e xA xB) (.e (.t (.a (.g xI) (.k xA))) (.s xB xI))) [_,_]) hsz
 rw [this];simpa using e
end
section
variable {w:av}
theorem MF (hn:n<=last) (hl:last<=3) (hrows:rows.length=last+1): ∀x∈tq rows last n i,0<=x/\x<=4:=by
 have later: ∀k,k<=last - n-> ∀x∈qm rows last n k,0<=x/\x<=4:=by
  intro k
  induction k with
  |zero=>intro _ x hx;simp [qm] at hx
  |succ k ih=>
   intro hk x hx
   rw [uN] at hx
   rcases ar.mp hx with q|q
   ·exact ih (by exact (my (.i (.l (.a xA xI) (.s xB xC)) (.l xA (.s xB xC))) [_,_,_]) hk) x q
   ·rw [(dW.mp q).2];exact (my (.i (.l xA xO) (.i (.l (.a xC xI) (.s xA xB)) (.a (.L xJ (.a (.s (.k xA) (.k (.a (.a xB xI) xC))) xI)) (.L (.a (.s (.k xA) (.k (.a (.a xB xI) xC))) xI) xK)))) [_,_,_]) hl hk
 intro x hx
 unfold tq at hx
 rcases ar.mp hx with q|q
 ·rcases ar.mp q with q|q
  ·rw [(dW.mp q).2];exact (my (.i (.l xB xA) (.i (.l xA xO) (.a (.L xJ (.s (.k xA) (.k xB))) (.L (.s (.k xA) (.k xB)) xK)))) [_,_]) hn hl
  ·rw [(dW.mp q).2];exact (my (.i (.l xB xA) (.i (.l xA xO) (.a (.L xJ (.a (.s (.k xA) (.k xB)) xI)) (.L (.a (.s (.k xA) (.k xB)) xI) xK)))) [_,_]) hn hl
 ·exact later _ (aN _) x q
theorem Kw (h:0<=x/\x<=4):IntMulOk x y:=by
 obtain ⟨h0,h1⟩:=h
 have:x=0\/x=1\/x=2\/x=3\/x=4:=by exact (my (.i (.L xJ xA) (.i (.L xA xK) (.o (.E xA xJ) (.o (.E xA xI) (.o (.E xA xM) (.o (.E xA xO) (.E xA xK))))))) [] [_]) h0 h1
 rcases this with rfl|rfl|rfl|rfl|rfl<;>exact .of_left (by decide+kernel)
theorem AL (h1:0<=a) (h2:a<=1000000) (h3:0<=b) (h4:b<=1000000):jH a b 1=ai:=small_one (by exact (my (.i (.L xJ xA) (.L (.g Nv) xA)) [] [_]) h1) (by exact (my (.i (.L xA (.c 1000000)) (.B xA Nv)) [] [_]) h2) (by exact (my (.i (.L xJ xA) (.L (.g Nv) xA)) [] [_]) h3) (by exact (my (.i (.L xA (.c 1000000)) (.B xA Nv)) [] [_]) h4)
set_option maxHeartbeats 4000000 in
theorem Jv (h0:1<=rows.length) (h4:rows.length<=4) (h5: ∀r∈rows,r.length<=5) (h1: ∀r∈rows,1<=r.length):rH mu w 1 321 [.list (rows.map il)] (il (zG rows)):=by
 refine qD ["rows"] (M1 _) (λvs e=> ?_) (λA X g' L lx G=> ?_)
 ·refine eE (vi e) λz T1=> ?_;obtain rfl:=T1;kernel_rfl!
 ·have hh:(A.deeper (bf IK L 321)).handled=az:=G.room.1
  have hz:=aw
  obtain ⟨last,Up⟩: ∃last,rows.length=last+1:=⟨rows.length - 1,by exact (my (.i (.l xI xA) (.e xA (.a (.s xA xI) xI))) [_]) h0⟩
  have W2: ∀i,i<rows.length->1<=(m8 rows i).length:=λi hi=>by
   unfold m8;rw [aA hi];exact h1 _ (dn hi)
  have hL1:=W2 last (by exact (my (.i (.e xB (.a xA xI)) (.b xA xB)) [_,_]) Up)
  have hL5:=vg h5 last
  refine mM (p:=.int last) (mQ (mJ (p:=.int ((rows.map il).length:Nat)) (q:=.int 1) (n9 G (ps:=[.list (rows.map il)]) (by kernel_rfl) (by kernel_rfl) (mz ?_ mI) (r9 (by rw [ah];exact (my (.i (.l xA xK) (.l xA (.c 1000000))) [_]) h4))) mN nK) (by rw [ah,Up];exact congrArg _ (my (.E (.s (.k (.a xA xI)) xI) (.k xA)) [_]))) ?_
  ·walk_at "ev"
  refine mM (p:=il (aG ((m8 rows last).length - 1) 0)) (mQ (uV (ps:=[.int 0]) (k:=((m8 rows last).length:Int) - 1) (mz mN mI) (mJ (p:=.int ((sg (m8 rows last)).length:Nat)) (q:=.int 1) (n9 G (ps:=[il (m8 rows last)]) (by kernel_rfl) (by kernel_rfl) (mz (nq (p:=.list (rows.map il)) (q:=.int last) ?_ ?_ (m5 (by exact my (.L xJ (.k xA)) [_]) (by rw [ca];exact yk (by exact (my (.i (.e xB (.a xA xI)) (.b xA xB)) [_,_]) Up)) (by exact (my (.i (.l xB xK) (.i (.e xB (.a xA xI)) (.B (.k xA) xS))) [_,_]) h4 Up))) mI) (r9 (by rw [o6];exact (my (.i (.l xA xN) (.l xA (.c 1000000))) [_]) hL5))) mN (te nK (by rw [o6]))) (by decide) (by simp) (by exact my (.L (.g xS) (.s (.k xA) xI)) [_]) (by exact (my (.i (.l xA xN) (.L (.s (.k xA) xI) (.c 10000))) [_]) hL5)) (by
   unfold il;rw [zM];congr 3;exact my (.e (.t (.s (.k xA) xI)) (.s xA xI)) [_])) ?_
  ·walk_at "ev"
  ·walk_at "ev"
  refine o7 (σ':=[("total",il (rK rows last 0)),("rows",.list (rows.map il)),("last",.int last)]) (by walk_at "has") ?_
  refine rJ G (l:=ag rows.length) (V:=λ(n:Nat)=>.tup [.int n,il (m8 rows n)]) (bs:=λn=>[("row",il (m8 rows n)),("n",.int n)]) (λk=>[("total",il (rK rows last k)),("rows",.list (rows.map il)),("last",.int last)]) (λz=>[])
   (KG rows▸KO (s9 (rU G (by kernel_rfl) (by kernel_rfl)) (mz (by walk_at "ev") mI)) hh (λb hb=>ax _ hb)) rfl rfl (λn is z=>qS hh) (λi n g1 is1 hi G1=> ?_) ?_
  ·obtain ⟨hn,rfl⟩:n<rows.length/\n=i:=by
    obtain ⟨h1,h2⟩:=aT.mp hi
    rw [cU] at h2
    exact ⟨by rw [<-h2];simpa using h1,h2.symm⟩
   clear hi
   have hh1:=hh
   have Wx:=vg h5 n
   have hlr1:=W2 n hn
   refine mM (p:=il []) (pX mI (cx _)) ?_
   refine o7 (σ':=[("later",il (qm rows last n 0)),("row",il (m8 rows n)),("n",.int n),("total",il (rK rows last n)),("rows",.list (rows.map il)),("last",.int last)]) (by walk_at "has") ?_
   refine rJ G1 (l:=ag (last - n)) (V:=λ(k:Nat)=>.int (((n:Int)+1)+k)) (bs:=λk=>[("j",.int (((n:Int)+1)+k))]) (λk=>[("later",il (qm rows last n k)),("row",il (m8 rows n)),("n",.int n),("total",il (rK rows last n)),("rows",.list (rows.map il)),("last",.int last)]) (λz=>[])
    (yZ (a:=(n:Int)+1) (b:=(last:Int)+1) (n:=last - n) (JQ (s9 (rU G1 (by kernel_rfl) (by kernel_rfl)) (mz (mJ (p:=.int n) (q:=.int 1) ?_ mN nV) (mz (mJ (p:=.int last) (q:=.int 1) ?_ mN nV) mI)))) ?_ ?_ hh) rfl rfl (λk is z=>nO) (λk k' g2 U2 hk G2=> ?_) ?_
   ·walk_at "ev"
   ·walk_at "ev"
   ·rw [lq];split<;>(first|exact (my (.i (.B (.a (.k xB) xI) (.a (.k xA) xI)) (.E (.s (.a (.k xA) xI) (.a (.k xB) xI)) (.k (.s xA xB)))) [_,_]) (by assumption)|exact (my (.i (.n (.B (.a (.k xB) xI) (.a (.k xA) xI))) (.E xJ (.k (.s xA xB)))) [_,_]) (by assumption))
   ·exact AL (by exact my (.L xJ (.a (.k xA) xI)) [_]) (by exact (my (.i (.l xB xK) (.i (.b xA xB) (.L (.a (.k xA) xI) (.c 1000000)))) [_,_]) h4 hn) (by exact my (.L xJ (.a (.k xA) xI)) [_]) (by exact (my (.i (.l xB xK) (.i (.e xB (.a xA xI)) (.L (.a (.k xA) xI) (.c 1000000)))) [_,_]) h4 Up)
   ·obtain ⟨VD,rfl⟩:k'<last - n/\k'=k:=by
     obtain ⟨h1,h2⟩:=aT.mp hk
     rw [cU] at h2
     exact ⟨by rw [<-h2];simpa using h1,h2.symm⟩
    clear hk
    have ej:((n:Int)+1)+(k':Int)=((n+1+k':Nat):Int):=by exact my (.E (.a (.a (.k xA) xI) (.k xB)) (.k (.a (.a xA xI) xB))) [_,_]
    rw [ej]
    have hj5:=vg h5 (n+1+k')
    have hj5':=vg h5 (n+k')
    have Un:=yf h5 last n k'
    refine mM (p:=il (qm rows last n (k'+1))) (mQ (mJ (p:=il (qm rows last n k')) (q:=il (aG ((m8 rows (n+1+k')).length - (m8 rows (n+k')).length) ((last:Int) - ((n+1+k':Nat):Int)+1))) ?_
     (mQ (uV (ps:=[.int ((last:Int) - ((n+1+k':Nat):Int)+1)]) (k:=((m8 rows (n+1+k')).length:Int) - ((m8 rows (n+k')).length:Int)) (mz (mJ (p:=.int ((last:Int) - ((n+1+k':Nat):Int))) (q:=.int 1) (mJ (p:=.int last) (q:=.int ((n+1+k':Nat):Int)) ?_ ?_ nK) mN nV) mI)
      (mJ (p:=.int ((sg (m8 rows (n+1+k'))).length:Nat)) (q:=.int ((sg (m8 rows (n+k'))).length:Nat)) (n9 G2 (ps:=[il (m8 rows (n+1+k'))]) (by kernel_rfl) (by kernel_rfl) (mz (nq (p:=.list (rows.map il)) (q:=.int ((n+1+k':Nat):Int)) ?_ ?_ (m5 (by exact my (.L xJ (.k (.a (.a xA xI) xB))) [_,_]) (by rw [ca];exact yk (by exact (my (.i (.e xC (.a xD xI)) (.i (.b xB (.s xD xA)) (.b (.a (.a xA xI) xB) xC))) [_,_,_,_]) Up VD)) (by exact (my (.i (.l xC xK) (.i (.e xC (.a xD xI)) (.i (.b xB (.s xD xA)) (.B (.k (.a (.a xA xI) xB)) xS)))) [_,_,_,_]) h4 Up VD))) mI) (r9 (by rw [o6];exact (my (.i (.l xA xN) (.l xA (.c 1000000))) [_]) hj5)))
       (n9 G2 (ps:=[il (m8 rows (n+k'))]) (by kernel_rfl) (by kernel_rfl) (mz (nq (p:=.list (rows.map il)) (q:=.int ((n+k':Nat):Int)) ?_ (mJ (p:=.int ((n+1+k':Nat):Int)) (q:=.int 1) ?_ mN (te nK (by exact congrArg _ (my (.E (.s (.k (.a (.a xA xI) xB)) xI) (.k (.a xA xB))) [_,_])))) (m5 (by exact my (.L xJ (.k (.a xA xB))) [_,_]) (by rw [ca];exact yk (by exact (my (.i (.e xC (.a xD xI)) (.i (.b xB (.s xD xA)) (.b (.a xA xB) xC))) [_,_,_,_]) Up VD)) (by exact (my (.i (.l xC xK) (.i (.e xC (.a xD xI)) (.i (.b xB (.s xD xA)) (.B (.k (.a xA xB)) xS)))) [_,_,_,_]) h4 Up VD))) mI) (r9 (by rw [o6];exact (my (.i (.l xA xN) (.l xA (.c 1000000))) [_]) hj5')))
       (te nK (by rw [o6,o6]))) (by simp) (by simp) (by exact (my (.i (.l xB xN) (.L (.g xS) (.s (.k xA) (.k xB)))) [_,_]) hj5') (by exact (my (.i (.l xA xN) (.L (.s (.k xA) (.k xB)) (.c 10000))) [_,_]) hj5)) (by unfold il;rw [zM];congr 3;exact my (.e (.t (.s (.k xA) (.k xB))) (.s xA xB)) [_,_])) (pN (by rw [o6,o6,a8];exact (my (.i (.l xE xK) (.i (.e xD xL) (.i (.e xE (.a xF xI)) (.i (.b xG (.s xF xH)) (.i (.l xB xN) (.i (.l xA (.m 5 xG)) (.l (.a xA (.s xB xC)) xD))))))) [_,_,_,_,_,_,_,_]) h4 hz Up VD hj5 Un))) (by rw [uN];unfold il;rw [zJ])) (qM (by walk_at "has"))
    ·walk_at "ev"
    ·walk_at "ev"
    ·walk_at "ev"
    ·walk_at "ev"
    ·walk_at "ev"
    ·walk_at "ev"
    ·walk_at "ev"
   ·refine o7 (σ':=[("total",il (rY rows last n 0 (rK rows last n))),("later",il (qm rows last n (last - n))),("row",il (m8 rows n)),("n",.int n),("rows",.list (rows.map il)),("last",.int last)]) ?_ ?_
    ·rw [be];walk_at "has"
    have Un:=yf h5 last n (last - n)
    refine rJ G1 (l:=ag ((m8 rows n).length - 1)) (V:=λ(k:Nat)=>.int ((0:Int)+k)) (bs:=λk=>[("i",.int ((0:Int)+k))]) (λk=>[("total",il (rY rows last n k (rK rows last n))),("later",il (qm rows last n (last - n))),("row",il (m8 rows n)),("n",.int n),("rows",.list (rows.map il)),("last",.int last)]) (λz=>[])
     (yZ (a:=0) (b:=((m8 rows n).length:Int) - 1) (n:=(m8 rows n).length - 1) (Dk (s9 (rU G1 (by kernel_rfl) (by kernel_rfl)) (mz (mJ (p:=.int ((sg (m8 rows n)).length:Nat)) (q:=.int 1) (n9 G1 (ps:=[il (m8 rows n)]) (by kernel_rfl) (by kernel_rfl) (mz ?_ mI) (r9 (by rw [o6];exact (my (.i (.l xA xN) (.l xA (.c 1000000))) [_]) Wx))) mN (te nK (by rw [o6]))) mI))) ?_ ?_ hh) rfl rfl (λk is z=>nO) (λk k' g2 U2 hk G2=> ?_) ?_
    ·walk_at "ev"
    ·rw [lq];split<;>(first|exact (my (.i (.B xJ (.s (.k xA) xI)) (.E (.s (.s (.k xA) xI) xJ) (.k (.s xA xI)))) [_]) (by assumption)|exact (my (.i (.n (.B xJ (.s (.k xA) xI))) (.E xJ (.k (.s xA xI)))) [_]) (by assumption))
    ·exact AL (by exact my (.L xJ xJ) [] []) (by exact my (.L xJ (.c 1000000)) [] []) (by exact (my (.i (.l xI xA) (.L xJ (.s (.k xA) xI))) [_]) hlr1) (by exact (my (.i (.l xA xN) (.L (.s (.k xA) xI) (.c 1000000))) [_]) Wx)
    ·obtain ⟨VD,rfl⟩:k'<(m8 rows n).length - 1/\k'=k:=by
      refine eE (aT.mp hk) λh1 h2=> ?_
      rw [cU] at h2
      exact ⟨by rw [<-h2];simpa using h1,h2.symm⟩
     clear hk
     rw [fv]
     have hx:(m8 rows n)[k']? =aa ((m8 rows n)[k']?.getD 0):=by
      rw [aA (by exact (my (.i (.b xA (.s xB xI)) (.b xA xB)) [_,_]) VD)];rfl
     generalize hX:(m8 rows n)[k']?.getD 0=x0 at hx
     have hok:=MF (i:=k') (by exact (my (.i (.e xC (.a xB xI)) (.i (.b xA xC) (.l xA xB))) [_,_,_]) Up hn) (by exact (my (.i (.l xB xK) (.i (.e xB (.a xA xI)) (.l xA xO))) [_,_]) h4 Up) Up (rows:=rows) (n:=n)
     have Vv:(tq rows last n k').length<=30:=by unfold tq;simp only [af,a8];exact (my (.i (.l xD xK) (.i (.e xD (.a xE xI)) (.i (.l xB xN) (.i (.l xC (.m 5 (.s xE xF))) (.i (.b xA (.s xB xI)) (.l (.a (.a xA (.s (.s xB xM) xA)) xC) (.c 30))))))) [_,_,_,_,_,_]) h4 Up Wx Un VD
     generalize hS:tq rows last n k'=U5 at hok Vv
     refine mM (p:=il (qH x0 [])) (pX (ps:=[.int x0]) (mz (nq (p:=il (m8 rows n)) (q:=.int k') ?_ ?_ (m5 (by exact my (.L xJ (.k xA)) [_]) (by rw [ca];unfold sg;rw [a7,hx];rfl) (by exact (my (.i (.l xB xN) (.i (.b xA (.s xB xI)) (.B (.k xA) xS))) [_,_]) Wx VD))) mI) (by simp;exact (my (.i (.e xA xL) (.l xI xA)) [_]) hz)) ?_
     ·walk_at "ev"
     ·walk_at "ev"
     refine o7 (σ':=[("share",il (qH x0 (U5.take 0))),("i",.int k'),("total",il (rY rows last n k' (rK rows last n))),("later",il (qm rows last n (last - n))),("row",il (m8 rows n)),("n",.int n),("rows",.list (rows.map il)),("last",.int last)]) (by walk_at "has") ?_
     refine rJ G2 (l:=U5) (V:=PV.int) (bs:=λk=>[("shift",.int k)]) (λk=>[("share",il (qH x0 (U5.take k))),("i",.int k'),("total",il (rY rows last n k' (rK rows last n))),("later",il (qm rows last n (last - n))),("row",il (m8 rows n)),("n",.int n),("rows",.list (rows.map il)),("last",.int last)]) (λz=>[])
      (qF (mQ (mJ (p:=.list (sg (aG k' ((last:Int) - n))++sg (aG ((m8 rows n).length - 2 - k') ((last:Int) - n+1)))) (q:=il (qm rows last n (last - n))) (mJ (p:=il (aG k' ((last:Int) - n))) (q:=il (aG ((m8 rows n).length - 2 - k') ((last:Int) - n+1)))
       (mQ (uV (ps:=[.int ((last:Int) - n)]) (k:=(k':Int)) (mz (mJ (p:=.int last) (q:=.int n) ?_ ?_ nK) mI) ?_ (by simp) (fE _ _) (by exact my (.L (.g xS) (.k xA)) [_]) (by exact (my (.i (.l xB xN) (.i (.b xA (.s xB xI)) (.L (.k xA) (.c 10000)))) [_,_]) Wx VD)) (by unfold il;rw [zM];congr 3))
       (mQ (uV (ps:=[.int ((last:Int) - n+1)]) (k:=((m8 rows n).length:Int) - 2 - k') (mz (mJ (p:=.int ((last:Int) - n)) (q:=.int 1) (mJ (p:=.int last) (q:=.int n) ?_ ?_ nK) mN nV) mI)
        (mJ (p:=.int (((m8 rows n).length:Int) - 2)) (q:=.int k') (mJ (p:=.int ((sg (m8 rows n)).length:Nat)) (q:=.int 2) (n9 G2 (ps:=[il (m8 rows n)]) (by kernel_rfl) (by kernel_rfl) (mz ?_ mI) (r9 (by rw [o6];exact (my (.i (.l xA xN) (.l xA (.c 1000000))) [_]) Wx))) mN (te nK (by rw [o6]))) ?_ nK) (by simp) (fE _ _) (by exact (my (.i (.b xB (.s xA xI)) (.L (.g xS) (.s (.s (.k xA) xM) (.k xB)))) [_,_]) VD) (by exact (my (.i (.l xA xN) (.L (.s (.s (.k xA) xM) (.k xB)) (.c 10000))) [_,_]) Wx)) (by unfold il;rw [zM];congr 3;exact my (.e (.t (.s (.s (.k xA) xM) (.k xB))) (.s (.s xA xM) xB)) [_,_]))
       (pN (by rw [o6,o6,a8,a8];exact (my (.i (.e xC xL) (.i (.l xB xN) (.i (.b xA (.s xB xI)) (.l (.a xA (.s (.s xB xM) xA)) xC)))) [_,_,_]) hz Wx VD))) ?_ (pN (by rw [af,o6,o6,o6,a8,a8];exact (my (.i (.l xE xK) (.i (.e xD xL) (.i (.e xE (.a xF xI)) (.i (.l xB xN) (.i (.l xC (.m 5 (.s xF xG))) (.i (.b xA (.s xB xI)) (.l (.a (.a xA (.s (.s xB xM) xA)) xC) xD))))))) [_,_,_,_,_,_,_]) h4 hz Up Wx Un VD))) (by rw [<-zJ,<-zJ,<-hS];rfl)) hh (.inl ⟨_,_,rfl⟩) (λb hb=>ax _ hb)) rfl rfl (λk is z=>nO (.inr ⟨L+1,n8.of (uY (fd:=IK) (a:=321) (A:=A) (X:=X) (M:=[]) (g:=g') rfl (by kernel_rfl) (by kernel_rfl)) rfl (λb hb=>hb)⟩)) (λk sh g3 is3 hk3 G3=> ?_) ?_
     ·walk_at "ev"
     ·walk_at "ev"
     ·walk_at "ev"
     ·walk_at "ev"
     ·walk_at "ev"
     ·walk_at "ev"
     ·walk_at "ev"
     ·walk_at "ev"
     ·have hsh:=hok sh (br hk3)
      have UW:(qH x0 (U5.take k)).length<=31:=by rw [BK,dm];exact (my (.i (.l xB (.c 30)) (.l (.a (.n xA xB) xI) (.c 31))) [_,_]) Vv
      have UN:=Gj x0 U5 k sh hk3
      generalize qH x0 (U5.take k)=cur at UW UN ⊢
      refine wn (l:=dF (cur++[0]) (0::cur)) (V:=pr) (bs:=λq=>[("b",.int q.2),("a",.int q.1)]) (cl:=[("shift",L+1)]) [("shift",.int sh)] (λz=>ai) (λq=>.int (q.1+sh*q.2))
       ?h1 ?h2 ?h3 ?h4 ?h5 ?h6 ?h7 ?h8 ?h9 ?h10 ?h11 ?h12 ?h13 ?h14 ?h15 ?h16 ?h17
      case h1=>exact Eb (cur++[0]) (0::cur)▸Hw (ps:=sg (cur++[0])) (qs:=sg (0::cur)) (s9 (rU G3 (by kernel_rfl) (by kernel_rfl)) (mz (mQ (mJ (p:=il cur) (q:=.list [.int 0]) (by walk_at "ev") (pX (mz mN mI) (by simp;exact (my (.i (.e xA xL) (.l xI xA)) [_]) hz)) (pN (by rw [o6];simp;exact (my (.i (.e xB xL) (.i (.l xA (.c 31)) (.l (.a xA xI) xB))) [_,_]) hz UW))) (by rw [zJ];rfl)) (mz (mJ (p:=.list [.int 0]) (q:=il cur) (pX (mz mN mI) (by simp;exact (my (.i (.e xA xL) (.l xI xA)) [_]) hz)) (by walk_at "ev") (pN (by rw [o6];simp;exact (my (.i (.e xB xL) (.i (.l xA (.c 31)) (.l (.a xI xA) xB))) [_,_]) hz UW))) mI))) hh (λb hb=>nomatch hb)
      case h2=>exact (n5 nJ (by walk_at "lk") (.inl rfl) (λz=>by kernel_rfl) (λz=>.inl (by kernel_rfl)))
      case h3=>exact (λq C g T6 z=>qS hh)
      case h4=>exact (λq C g T6 z z z=>og)
      case h5=>
       refine (λq C g T6 z z z z z=>mJ (p:=.int q.1) (q:=.int (sh*q.2)) ?_ (mJ (p:=.int sh) (q:=.int q.2) ?_ ?_ (Bc (Kw hsh))) nV)
       ·walk_at "ev"
       ·walk_at "ev"
       ·walk_at "ev"
      case h6=>exact (λh i=>G3.offX i)
      case h7=>simp;exact (my (.i (.e xB xL) (.i (.l xA (.c 31)) (.l (.a xA xI) xB))) [_,_]) hz UW
      case h8=>exact (λz z=>by kernel_rfl)
      case h9=>kernel_rfl
      case h10=>exact ⟨by kernel_rfl,trivial⟩
      case h11=>rfl
      case h12=>decide+kernel
      case h13=>
       rw [Ay]
       have:PV.list ((dF (cur++[0]) (0::cur)).map λq=>PV.int (q.1+sh*q.2))=il (qH x0 (U5.take (k+1))):=by
        rw [UN];unfold il uc sg;rw [aB];rfl
       rw [this]
       exact qM (by walk_at "has")
      case h14=>rfl
      case h15=>rfl
      case h16=>rfl
      case h17=>intro _;rfl
     ·rw [eJ]
      have UW:(qH x0 U5).length<=31:=by rw [BK];exact (my (.i (.l xA (.c 30)) (.l (.a xA xI) (.c 31))) [_]) Vv
      have Wa:=xn rows last n (rK rows last n) k'
      have htl2:=AK rows last n
      have UN:=w1 rows last n k' (rK rows last n)
      rw [hX,hS] at UN
      generalize qH x0 U5=cur at UW UN ⊢
      generalize rY rows last n k' (rK rows last n)=U0 at Wa UN ⊢
      refine wn (l:=dF U0 cur) (V:=pr) (bs:=λq=>[("b",.int q.2),("a",.int q.1)]) (cl:=[]) [] (λz=>ai) (λq=>.int (q.1+q.2))
       ?h1 ?h2 ?h3 ?h4 ?h5 ?h6 ?h7 ?h8 ?h9 ?h10 ?h11 ?h12 ?h13 ?h14 ?h15 ?h16 ?h17
      case h1=>exact Eb U0 cur▸Hw (ps:=sg U0) (qs:=sg cur) (s9 (rU G2 (by kernel_rfl) (by kernel_rfl)) (mz (by walk_at "ev") (mz (by walk_at "ev") mI))) hh (λb hb=>nomatch hb)
      case h2=>exact nJ
      case h3=>exact (λq C g T6 z=>qS hh)
      case h4=>exact (λq C g T6 z z z=>og)
      case h5=>
       refine (λq C g T6 z z z z z=>mJ (p:=.int q.1) (q:=.int q.2) ?_ ?_ nV)
       ·walk_at "ev"
       ·walk_at "ev"
      case h6=>exact (λh i=>G2.offX i)
      case h7=>simp;exact (my (.i (.e xC xL) (.i (.l xB (.c 31)) (.l (.n xA xB) xC))) [_,_,_]) hz UW
      case h8=>exact (λz z=>rfl)
      case h9=>kernel_rfl
      case h10=>trivial
      case h11=>rfl
      case h12=>decide+kernel
      case h13=>
       rw [Ay]
       have:PV.list ((dF U0 cur).map λq=>PV.int (q.1+q.2))=il (rY rows last n (k'+1) (rK rows last n)):=by
        rw [UN];unfold il AX sg;rw [aB];rfl
       rw [this]
       exact qM (by walk_at "has")
      case h14=>rfl
      case h15=>rfl
      case h16=>rfl
      case h17=>intro _;rfl
    ·rw [be]
     have e:=y9 rows last n
     rw [<-e]
     exact qM (by walk_at "has")
  ·rw [be]
   have WV:(m8 rows last).getLast? =aa ((m8 rows last).getLast?.getD 0):=by
    cases e:(m8 rows last).getLast? with
    |none=>rw [j0] at e;rw [e] at hL1;simp at hL1
    |some x=>rfl
   have Wa:=AK rows last rows.length
   have hP:zG rows=((m8 rows last).getLast?.getD 0::rK rows last rows.length).map λx=>x.fmod 128:=by
    unfold zG;rw [show rows.length - 1=last by exact (my (.i (.e xA (.a xB xI)) (.e (.s xA xI) xB)) [_,_]) Up]
   rw [hP]
   generalize (m8 rows last).getLast?.getD 0=y0 at WV ⊢
   generalize rK rows last rows.length=U0 at Wa ⊢
   have E: ∀{φ:Fs} {e:Expr},Ev mu w φ e (.list (((y0::U0).filter λz=>ai).map λq=>PV.int (q.fmod 128)))->Ev mu w φ e (il ((y0::U0).map λx=>x.fmod 128)):=λh=>mQ h (by rw [Ay];unfold il sg;rw [aB];rfl)
   refine ng (E ?_)
   refine pG (l:=y0::U0) (V:=PV.int) (bs:=λq=>[("x",.int q)]) (cl:=[]) [] (λz=>ai) (λq=>.int (q.fmod 128)) ?h1 ?h2 ?h3 ?h4 ?h5 ?h6 ?h7 ?h8 ?h9 ?h10 ?h11 ?h12
   case h1=>
    refine qF (ps:=sg (y0::U0)) ?_ hh (.inl ⟨_,_,rfl⟩) (λz h=>nomatch h)
    refine mJ (p:=.list [.int y0]) (q:=il U0) (pX (ps:=[.int y0]) (mz (nq (p:=il (m8 rows last)) (q:=.int (-1)) (nq (p:=.list (rows.map il)) (q:=.int last) ?_ ?_ (m5 (by exact my (.L xJ (.k xA)) [_]) (by rw [ca];exact yk (by exact (my (.i (.e xB (.a xA xI)) (.b xA xB)) [_,_]) Up)) (by exact (my (.i (.l xB xK) (.i (.e xB (.a xA xI)) (.B (.k xA) xS))) [_,_]) h4 Up))) (rX mN oI) (FH (by unfold sg;rw [gA,WV];rfl))) mI) (by simp;exact (my (.i (.e xA xL) (.l xI xA)) [_]) hz)) ?_ (pN (by rw [o6];simp;exact (my (.i (.e xB xL) (.i (.l xC xN) (.i (.l xA (.s xC xI)) (.l (.a xI xA) xB)))) [_,_,_]) hz hL5 Wa))
    ·walk_at "ev"
    ·walk_at "ev"
    ·walk_at "ev"
   case h2=>exact nJ
   case h3=>exact (λq C g T6 z=>nO)
   case h4=>exact (λq C g T6 z z z=>og)
   case h5=>
    refine (λq C g T6 z z z z=>mJ (p:=.int q) (q:=.int 128) ?_ mN (oq (by decide)))
    walk_at "ev"
   case h6=>simp;exact (my (.i (.e xB xL) (.i (.l xC xN) (.i (.l xA (.s xC xI)) (.l (.a xA xI) xB)))) [_,_,_]) hz hL5 Wa
   case h7=>exact (λz z=>rfl)
   case h8=>rfl
   case h9=>trivial
   case h10=>rfl
   case h11=>decide+kernel
   case h12=>intro _;rfl
end
end
section
open PySem.Calls PyProof.Rows
structure pE (prog:aH) (w:av) (I:aW->Prop) (env:Env) (A:aX) (b:List eh) (J:hF->aW->Prop):Prop where
 run: ∀s:aq,I s.heap->0<s.toks->aC (aI prog w) A (iB b env) (λfl s'=>nB s s'/\J fl s'.heap) (λz z=>False) s
structure Et (prog:aH) (w:av) (φ:Fs) (e:Expr) (P:PV->Prop):Prop where
 run: ∀s:aq,φ.I s.heap->0<s.toks->aC (aI prog w) φ.A (bJ e φ.env) (λv s'=>bB s s'/\ ∃p,P p/\mP φ.X s'.heap p v) (λz z=>False) s
structure K0 (prog:aH) (w:av) (A:aX) (X:List aF) (I:aW->Prop) (f:ay) (ps:List PV) (P:PV->Prop):Prop where
 run: ∀(s:aq) (vs:List ay),I s.heap->0<s.toks->n7 X s.heap->mK X s.heap ps vs->aC (aI prog w) A (ft f vs) (λv s'=>bB s s'/\ ∃p,P p/\mP X s'.heap p v) (λz z=>False) s
section
variable {prog:aH} {w:av} {c:Sc} {σ:mX} {Λ:List (aF×List PV)} {I I':aW->Prop} {env:Env} {A:aX} {J J':hF->aW->Prop}
theorem pE.of (h:mT prog w env A I b J):pE prog w I env A b J:=.mk λs i z=>h.run s i
theorem CZ (h:pE prog w I env A b (λfl g=>match fl with|.next=>I' g|f=>J f g)) (hc:pE prog w I' env A d J):pE prog w I env A (b++d) J:=.mk λs i t0 Γ p hΓ=>by
 refine E0 b p s (cg _ Γ _ (λfl p' s' Ub=> ?_) (λz z z e=>e) _ _ (CA _ _ p s (h.run s i t0 Γ p hΓ)))
 refine rQ Ub λk e j=> ?_
 cases fl with
 |next=>exact cg _ Γ _ (λfl z Vp ⟨e',j'⟩=>⟨e.trans e',j'⟩) (λz z z e=>e) _ _ (hc.run s' j (bg t0 k) Γ p' hΓ)
 |brk=>exact ⟨e,j⟩
 |cont=>exact ⟨e,j⟩
 |ret v=>exact ⟨e,j⟩
theorem K9 (h:mT prog w env A I b (λfl g=>match fl with|.next=>I' g|f=>J f g)) (hc:pE prog w I' env A d J):pE prog w I env A (b++d) J:=CZ (.of h) hc
theorem NT {ι:Type} {K:ι->aW->Prop} (h: ∀v,pE prog w (K v) env A b J):pE prog w (λg=> ∃v,K v g) env A b J:=.mk λs uu t0=>eE uu λv i=>(h v).run s i t0
theorem Nb (h:Ev prog w φ e p) (hp:P p):Et prog w φ e P:=.mk λs i z=>ab (h.run s i) (λv s' uu=>eA uu λk r=>⟨k,p,hp,r⟩) λz z e=>e
theorem JX {P:PV->Prop} (hl:Ev prog w φ l p) (hr:Ev prog w φ r q)
  (ho: ∀(s:aq) (x y:ay),0<s.toks->mP φ.X s.heap p x->mP φ.X s.heap q y->aC (aI prog w) φ.A (cf op x y) (λv s'=>bB s s'/\ ∃r,P r/\mP φ.X s'.heap r v) (λz z=>False) s):
  Et prog w φ (.BinOp l op r pos) P:=.mk λs i t0=>
 j6 (pR (ab (hl.run s i) (λx T0 uu tk1=>eA uu λT2 T5=>pR (ab (hr.run T0 (φ.mono' i T2)) (λy T3 uu tk2=>eA uu λT4 Uh=>
  ab (ho T3 x y (bg t0 (ch tk1 tk2)) (T5.keep (mG T4)) Uh) (λv Ua uu=>eA uu λUc Uj=>⟨mH T2 (mH T4 Uc),Uj⟩) λz z e=>e) λz z e=>e)) λz z e=>e))
theorem PF {P P':PV->Prop} (hv:Et prog w φ value P) (hs:Ev prog w φ Uw q) (ho: ∀p,P p-> ∃r,P' r/\n0 prog w φ.A φ.X (dS value Uw) p q r):Et prog w φ (.Subscript value Uw pos) P':=.mk λs i t0=>
 Subscript_ (ab (hv.run s i t0) (λx T0 uu=>oV uu λT2 p hp T5=>ab (hs.run T0 (φ.mono' i T2)) (λy T3 uu=>eA uu λT4 Uh=>by
  refine mR (ho p hp) λr hr op=> ?_
  exact ab (op T3 x y ((φ.live _ i).keep (mG (mH T2 T4))) (T5.keep (mG T4)) Uh) (λv Ua uu=>eA uu λUc Uj=>⟨mH T2 (mH T4 Uc),r,hr,Uj⟩) λz z e=>e) λz z e=>e) λz z e=>e)
theorem uS (he:Et prog w (fs c σ Λ) e P) (hb: ∀p,P p->pE prog w (In c ((x,p)::σ) Λ) c.env c.A b J)
  (hx:autoParam (sA c x) XJ) (hk:autoParam (c.env.scope.kind= .function) XZ) (hs:autoParam (cJ e (aa (.Name x px)) pos.line c.env=bG false) XZ):
  pE prog w (In c σ Λ) c.env c.A (.Assign [.Name x px] e pos::b) J:=by
 have h1:pE prog w (In c σ Λ) c.env c.A [.Assign [.Name x px] e pos] (λfl g=>match fl with|.next=> ∃p:{p // P p},In c ((x,p.1)::σ) Λ g|f=>J f g):=.mk λs i t0=>by
  refine wpAny_execs_cons (ab (Q:=λfl s'=>fl= .next/\nB s s'/\ ∃p:{p // P p},In c ((x,p.1)::σ) Λ s'.heap) ?_ (λfl s' uu=>rQ uu λe a b=>by subst e;exact iG ⟨a,b⟩) λz z e=>e)
  exact cN (ab (he.run s i t0) (λv T0 uu=>oV uu λT2 p hp T5=>
   ab (tY (i.mono (mG T2)) hx T5 hk) (λz T3 uu=>eA uu λUD T7=>⟨rfl,(nB.of T2).trans UD,⟨p,hp⟩,T7⟩) λz z e=>e) λz z e=>e) hs
 exact CZ (b:=[_]) h1 (NT λp=>hb p.1 p.2)
end
section
variable {prog:aH} {w:av} {c:Sc} {σ:mX} {Λ:List (aF×List PV)}
theorem Mg (he:Et prog w (fs c σ Λ) e P) (hg:mU g c.g:=by exact mU.rfl) (hY: ∀a∈Y,a∈c.X:=by exact λa h=>aM _ h):
  pE prog w (In c σ Λ) c.env c.A (.Return (aa e) pos::b) (λfl h=> ∃p,P p/\ux g Y p fl h):=.mk λs i t0=>by
 rw [ci]
 refine ae (jK (ab (he.run s i t0) (λv T0 uu=>oV uu λT2 p hp T5=> ?_) λz z e=>e))
 exact aj ⟨nB.of T2,p,hp,hg.trans (i.mono (mG T2)).keep,T5.sub λb hb z=>hY b hb⟩
structure C7 (prog:aH) (w:av) (φ:Fs) (e:Expr) (b:Bool):Prop where
 run: ∀s:aq,φ.I s.heap->0<s.toks->aC (aI prog w) φ.A (isTrue e φ.env (bJ e φ.env)) (λc s'=>bB s s'/\c=b) (λz z=>False) s
theorem Hh (ht:C7 prog w (fs c σ Λ) t d)
  (hb:d=ai->pE prog w (In c σ Λ) c.env c.A (b++rest) J) (ho:d=false->pE prog w (In c σ Λ) c.env c.A (o++rest) J):
  pE prog w (In c σ Λ) c.env c.A (.If t b o pos::rest) J:=.mk λs i t0 Γ p hΓ=>by
 rw [ci,di,exec_If]
 simp only [di,ja]
 refine cg _ Γ _ (λe UO T3 ⟨tk,k,q⟩=> ?_) (λz z z e=>e) _ _ (CA _ _ _ _ (ht.run s i t0 Γ _ hΓ))
 subst q
 have t2:=bg t0 tk
 cases e with
 |true=>exact uF b UO T3 (cg _ Γ _ (λfl z Ua ⟨e,j⟩=>⟨(nB.of k).trans e,j⟩) (λz z z e=>e) _ _ ((hb rfl).run T3 (i.mono (mG k)) t2 Γ UO hΓ))
 |false=>exact uF o UO T3 (cg _ Γ _ (λfl z Ua ⟨e,j⟩=>⟨(nB.of k).trans e,j⟩) (λz z z e=>e) _ _ ((ho rfl).run T3 (i.mono (mG k)) t2 Γ UO hΓ))
theorem OG {id:Str} (hf:Ev prog w (fs c σ Λ) (.Name id np) (.raw f)) (ha:tG prog w (fs c σ Λ) pos (e::es) ps)
  (hk: ∀s:aq,In c σ Λ s.heap->tf c.A prog w f s) (hc:K0 prog w c.A c.X (In c σ Λ) f ps P)
  (he:autoParam (aE (e::es) c.env=(false,bJ e c.env)::aE es c.env) XZ):Et prog w (fs c σ Λ) (.Call (.Name id np) (e::es) [] pos) P:=.mk λs i t0=>by
 refine cm (pR (ab (hf.run s i) (λv T0 uu tk1=>eA uu λT2 T5=> ?_) λz z e=>e))
 subst T5
 refine nI (qp (pR (ab (ha.run T0 (i.mono (mG T2))) (λvs T3 uu tk2=>eA uu λT4 Uh=> ?_) λz z e=>e)) he)
 have T7:=i.mono (mG (mH T2 T4))
 exact ⟨hk _ T7,ab (hc.run T3 vs T7 (bg t0 (ch tk1 tk2)) T7.liveAll Uh) (λz z uu=>eA uu λUc Uj=>⟨mH T2 (mH T4 Uc),Uj⟩) λz z e=>e⟩
theorem K7 {A:aX} {I:aW->Prop} (ns:List Str) {P:PV->Prop}
  (hd: ∀h,I h->xW h a fd body) (UG:A.depth<dC)
  (Ul: ∀(s:aq) (vs:List ay),I s.heap->mK X s.heap ps vs->aC (aI prog w) A.in1 (ey fd ⟨vs,[]⟩) (λUr T0=>bB s T0/\ ∃us,Ur=ns.zip us/\mK X T0.heap qs us) (λz z=>False) s)
  (F:Ar fd ns)
  (h: ∀g L,I g->n7 X g->pE prog w (In (mV fd a A X [] g L) (ql ns qs) []) (bf fd L a) (A.deeper (bf fd L a)) body (λfl h=> ∃p,P p/\ux g X p fl h)):K0 prog w A X I (.ref a) ps P:=.mk λs vs i t0 lx r=>by
 refine eo (xv (M:=[]) (ns:=ns) (qs:=qs) (Λ:=[]) (hd _ i) UG lx (λz h=>nomatch h) (λz h=>nomatch h) ?_ (λz h=>nomatch h) F λL T3 k tk z T7=> ?_)
 ·exact ab (Ul s vs i r) (λz z h=>h) λz z e=>e.elim
 ·refine ab ((h s.heap L i lx).run T3 T7 (bg t0 tk)) (λfl s' ⟨⟨h',tk',e⟩,p,hp,kk,rr⟩=> ?_) λz z e=>e.elim
  subst e
  refine oU k ?_;clear k;intro Uu Vn T1 T4;obtain rfl:=T1
  exact ⟨⟨h',tk',rfl,kk⟩,p,hp,rr⟩
end
def Fl (f:Fx) (v:ay):Prop:= ∃x t,v= .float x t/\FR f x/\t≠0
theorem Fl.rep (h:Fl f v) (g:aW):mP X g (.fx f) v:=by
 refine nh h ?_;clear h;intro x t T1 r _;obtain rfl:=T1
 exact ⟨x,t,rfl,r⟩
section
variable {prog:aH} {w:av} {c:Sc} {σ:mX} {Λ:List (aF×List PV)} {I:aW->Prop} {A:aX} {X:List aF}
theorem EX (t0:0<s.toks) (h:FR f x):bB s {s with toks:=s.toks+1}/\ ∃p,(∃u,p= .raw u/\Fl f u)/\mP X ({s with toks:=s.toks+1}:aq).heap p (.float x s.toks):=
 ⟨pg _ _,_,⟨_,rfl,x,s.toks,rfl,h,Nat.pos_iff_ne_zero.mp t0⟩,o9⟩
theorem H1 (e:AV a b=aa r) (s:aq) (x y:ay) (t0:0<s.toks) (rp:mP X s.heap (.int a) x) (rq:mP X s.heap (.int b) y):
  aC (aI prog w) A (cf .Div x y) (λv s'=>bB s s'/\ ∃p,(∃u,p= .raw u/\Fl r u)/\mP X s'.heap p v) (λz z=>False) s:=by
 refine eA (G7 e) λhb F=> ?_
 refine eE rp ?_;clear rp;intro t T1;obtain rfl:=T1;refine eE rq ?_;clear rq;intro u T1;obtain rfl:=T1
 exact jO (by simpa using hb) (zw F) (EX t0 F)
theorem Iv (e:zd f g=aa r) (s:aq) (x y:ay) (t0:0<s.toks) (rp:mP X s.heap (.fx f) x) (rq:mP X s.heap (.fx g) y):
  aC (aI prog w) A (cf .Div x y) (λv s'=>bB s s'/\ ∃p,(∃u,p= .raw u/\Fl r u)/\mP X s'.heap p v) (λj j=>False) s:=by
 refine oU rp ?_;clear rp;intro x t T1 Fx;obtain rfl:=T1;refine oU rq ?_;clear rq;intro y u T1 Fy;obtain rfl:=T1
 refine eA (zL Fx Fy e) λFr z=> ?_
 exact jy (by simp [z]) (EX t0 Fr)
theorem pS (he:Ev prog w (fs c σ Λ) e p) (hb:pE prog w (In c ((x,p)::σ) Λ) c.env c.A b J)
  (hx:autoParam (sA c x) XJ) (hk:autoParam (c.env.scope.kind= .function) XZ) (hs:autoParam (cJ e (aa (.Name x px)) pos.line c.env=bG false) XZ):
  pE prog w (In c σ Λ) c.env c.A (.Assign [.Name x px] e pos::b) J:=uS (P:=λq=>q=p) (Nb he rfl) (λq e=>e▸hb) hx hk hs
theorem C7.of (h:Tr prog w φ e b):C7 prog w φ e b:=.mk λs i z=>h.run s i
def zN (prog:aH) (w:av) (n:Nat) (a:aF) (I₀:aW->Prop) (ps:List PV) (P:PV->Prop):Prop:=
 ∀(A:aX) (X:List aF) (I:aW->Prop),pt n A->(∀h,I h->oi w.params h)->(∀h,I h->I₀ h)->sP w.params X->K0 prog w A X I (.ref a) ps P
theorem yR (ns:List Str) {I₀:aW->Prop} {ps:List PV} {P:PV->Prop} (T:qP w.params a fd body)
  (Ul: ∀vs:List ay,vs.length=ps.length->ey fd ⟨vs,[]⟩=bG (ns.zip vs))
  (h: ∀A X g L,n7 X g->I₀ g->Gd w n (mV fd a A X [] g L)->pE prog w (In (mV fd a A X [] g L) (ql ns ps) []) (bf fd L a) (A.deeper (bf fd L a)) body (λfl h=> ∃p,P p/\ux g X p fl h)) (F:autoParam (JI fd ns=ai) XQ):zN prog w (n+1) a I₀ ps P:=by
 have F:=v6 F
 intro A X I hr hI hI0 hO
 refine K7 ns (λh i=>(hI h i).defAt T) hr.lim (λs vs i r=>yd r Ul) F λg L i lx=> ?_
 exact h A X g L lx (hI0 g i) ⟨hI g i,hO,hr.deeper _,F.kind,F.gl,F.bl⟩
theorem IF (G:Gd w n c) {id:Str} (hv:lV (KB w.params) bm id=aa (aa (.ref a)))
  (ho:(KB w.params).lookup a=aa ⟨oc,od,.func fd,sl⟩) (ha:tG prog w (fs c σ Λ) pos (e::es) ps) (hc:zN prog w n a I₀ ps P) (h0:I₀ c.g) (hI₀: ∀h h',I₀ h->mU h h'->I₀ h') (hx:autoParam (c.env.kindOf id=aa .globalImplicit) XZ) (hd:autoParam ((id==("__debug__":Str))=false) XQ)
  (he:autoParam (aE (e::es) c.env=(false,bJ e c.env)::aE es c.env) XZ):Et prog w (fs c σ Λ) (.Call (.Name id np) (e::es) [] pos) P:=.mk λs i t0=>
 (OG (ud G hv hx hd) ha (λs i=>rB ((G.inBase _ i).frag _ _ ho) rfl) (hc c.A c.X _ G.room G.inBase (λh i=>hI₀ _ _ h0 i.keep) (G.offX i)) he).run s i t0
end
end
section
open PySem.Calls PyProof.Rows PySem.Builtin.Str
section
variable {w:av}
set_option tactic.hygienic true in
theorem Oh (e:qK (.int a) (.int b)=aa s): ∃f,s= .fx f/\AV a b=aa f:=by
 unfold qK at e
 dsimp only at e
 split at e
 ·exact nE e
 ·rename_i r q;obtain rfl:=am e;exact ⟨r,rfl,q⟩
theorem H5 (hp:p= .int a) (hq:q= .int b) (e:AV a b=aa r) (s:aq) (x y:ay) (t0:0<s.toks) (rp:mP X s.heap p x) (rq:mP X s.heap q y):
  aC (aI prog w) A (cf .Div x y) (λv s'=>bB s s'/\ ∃p,(∃u,p= .raw u/\Fl r u)/\mP X s'.heap p v) (λz z=>False) s:=by
 subst hp hq;exact H1 e s x y t0 rp rq
theorem Ib (n1:qn r g) (n2:qn g b) (n3:qn r b) (e:oz r g b=aa (.tup [hq,sq,mq]))
  (hmx:ny r g b= .int M) (hrg:nR (ny r g b) (qo r g b)=aa (.int R')) (c1:rS (qo r g b) (ny r g b)=false):
  zN mu w 1 125 (λz=>True) [r,g,b] (λq=> ∃u sf,Fl sf u/\sq= .fx sf/\q= .tup [hq,.raw u,mq]):=by
 have i1:=sp n1
 have i2:=sp n2
 have i3:=sp (sa n3)
 have im:=Cd i1 i2 i3
 have in_:=Ct i1 i2 i3
 have n4:=sa n3
 refine m4 e λrange e1 e=>m4 (tL c1 e) λs e2 e=>As e λrc gc bc h a1 a2 a3 h0 h1 R e=> ?_
 cases e
 have Wk:range= .int R':=by rw [hrg] at e1;exact (am e1).symm
 refine mR (Oh (by rw [Wk,hmx] at e2;exact e2)) λsf T1 V3=> ?_;obtain rfl:=T1
 refine yR ["r","g","b"] (vD _) (λvs e=> ?_) (λA X g' L lx z G=> ?_)
 ·refine vo (vm e) λz z z T1=> ?_;obtain rfl:=T1;kernel_rfl!
 have hh:(A.deeper (bf yn L 125)).handled=az:=G.room.1
 refine pS (p:=ny r g b) (n9 G (ps:=[r,g,b]) (by kernel_rfl) (by kernel_rfl) (mz ?_ (mz ?_ (mz ?_ mI))) (AC hh n1 n2 n3 n4)) ?_
 ·walk_at "ev"
 ·walk_at "ev"
 ·walk_at "ev"
 refine pS (p:=qo r g b) (n9 G (ps:=[r,g,b]) (by kernel_rfl) (by kernel_rfl) (mz ?_ (mz ?_ (mz ?_ mI))) (A0 hh n1 n2 n3 n4)) ?_
 ·walk_at "ev"
 ·walk_at "ev"
 ·walk_at "ev"
 refine pS (p:=range) (mJ (p:=ny r g b) ?_ ?_ (nQ e1)) ?_
 ·walk_at "ev"
 ·walk_at "ev"
 refine pS (p:=ny r g b) ?_ ?_
 ·walk_at "ev"
 refine Hh (d:=rS (qo r g b) (ny r g b)) (.of (mY (p:=qo r g b) (q:=ny r g b) ?_ ?_ (tK in_ im))) (λc2=>by rw [c1] at c2;exact oJ c2) (λz=> ?_)
 ·walk_at "ev"
 ·walk_at "ev"
 refine uS (P:=λp=> ∃u,p= .raw u/\Fl sf u) ?he (λq W8=> ?_)
 case he=>
  refine JX (p:=range) (q:=ny r g b) ?_ ?_ ?_
  ·walk_at "ev"
  ·walk_at "ev"
  ·exact H5 Wk hmx V3
 refine mR W8 ?_;clear W8;intro u T1 hu;obtain rfl:=T1
 exact pE.of (sX (D1 i1 i2 im R) (λz i=>i) (λz z r=>⟨_,⟨u,sf,hu,rfl,rfl⟩,r⟩))
end
section
variable {w:av}
theorem vM (r:mP X h (.raw v) u):u=v:=by exact r
theorem Du (hh:A.handled=az) (hv:Fl f v):pV prog w A X I (.builtin "max") [.raw v,.raw v,.raw v] (.raw v):=λs vs z z rr=>by
 refine rZ (zS rr) λv1 v2 v3 T1 r1 r2 r3=> ?_;obtain rfl:=T1
 obtain rfl:=vM r1;obtain rfl:=vM r2;obtain rfl:=vM r3
 have n:qn (.fx f) (.fx f):=trivial
 have r:mP X s.heap (.fx f) v3:=hv.rep _
 refine yz hh (sB n r) (sB n r) (sB n r) λh' tk k=>⟨⟨_,_,rfl,k⟩,?_⟩
 have: ∀b:Bool,mP X h' (.raw v3) (cond b (cond b v3 v3) (cond b v3 v3)):=λb=>by cases b<;>exact o9
 exact this _
theorem C8 (hh:A.handled=az) (hv:Fl f v):pV prog w A X I (.builtin "min") [.raw v,.raw v,.raw v] (.raw v):=λs vs z z rr=>by
 refine rZ (zS rr) λv1 v2 v3 T1 r1 r2 r3=> ?_;obtain rfl:=T1
 obtain rfl:=vM r1;obtain rfl:=vM r2;obtain rfl:=vM r3
 have n:qn (.fx f) (.fx f):=trivial
 have r:mP X s.heap (.fx f) v3:=hv.rep _
 refine yD hh (sB n r) (sB n r) (sB n r) λh' tk k=>⟨⟨_,_,rfl,k⟩,?_⟩
 have: ∀b:Bool,mP X h' (.raw v3) (cond b (cond b v3 v3) (cond b v3 v3)):=λb=>by cases b<;>exact o9
 exact this _
theorem Ky (hv:Fl f v) (e1:nR (.fx f) (.fx f)=aa range) (ee:sU f f=ai):rH mu w 1 125 [.raw v,.raw v,.raw v] (.tup [.fx (fN 0),.fx (fN 0),.raw v]):=by
 refine qD ["r","g","b"] (vD _) (λvs e=> ?_) (λA X g' L lx G=> ?_)
 ·refine vo (vm e) λz z z T1=> ?_;obtain rfl:=T1;kernel_rfl!
 ·have hh:(A.deeper (bf yn L 125)).handled=az:=G.room.1
  refine mM (p:=.raw v) (n9 G (ps:=[.raw v,.raw v,.raw v]) (by kernel_rfl) (by kernel_rfl) (mz ?_ (mz ?_ (mz ?_ mI))) (Du hh hv)) ?_
  ·walk_at "ev"
  ·walk_at "ev"
  ·walk_at "ev"
  refine mM (p:=.raw v) (n9 G (ps:=[.raw v,.raw v,.raw v]) (by kernel_rfl) (by kernel_rfl) (mz ?_ (mz ?_ (mz ?_ mI))) (C8 hh hv)) ?_
  ·walk_at "ev"
  ·walk_at "ev"
  ·walk_at "ev"
  refine mM (p:=range) (mJ (p:=.fx f) (q:=.fx f) (qQ (v:=v) ?_ λg=>hv.rep g) (qQ (v:=v) ?_ λg=>hv.rep g) (nQ e1)) ?_
  ·walk_at "ev"
  ·walk_at "ev"
  refine mM (p:=.raw v) ?_ ?_
  ·walk_at "ev"
  refine m9 (d:=ai) (mY (p:=.fx f) (q:=.fx f) (qQ (v:=v) ?_ λg=>hv.rep g) (qQ (v:=v) ?_ λg=>hv.rep g) (ee▸AQ)) (λz=> ?_) (λc=>by exact ro c)
  ·walk_at "ev"
  ·walk_at "ev"
  refine ng (ou (ps:=[.fx (fN 0),.fx (fN 0),.raw v]) (mz ?_ (mz ?_ (mz ?_ mI))) (by have:=aw;simp;exact (my (.i (.e xA xL) (.l xO xA)) [_]) this))<;>walk_at "ev"
theorem HN (hv:Fl f v) (e0:qE (.fx f) (.fx f)=aa (.fx f2)) (e1:nR (.fx f) (.fx f)=aa range) (e2:zd f2 (fN 2)=aa g) (ee:sU f f=ai):
  zN mu w 1 104 (λz=>True) [.raw v,.raw v,.raw v] (λq=> ∃u,Fl g u/\q= .tup [.fx (fN 0),.raw u,.fx (fN 0)]):=by
 refine yR ["r","g","b"] (DZ _) (λvs e=> ?_) (λA X g' L lx z G=> ?_)
 ·refine vo (vm e) λz z z T1=> ?_;obtain rfl:=T1;kernel_rfl!
 ·have hh:(A.deeper (bf Ja L 104)).handled=az:=G.room.1
  refine pS (p:=.raw v) (n9 G (ps:=[.raw v,.raw v,.raw v]) (by kernel_rfl) (by kernel_rfl) (mz ?_ (mz ?_ (mz ?_ mI))) (Du hh hv)) ?_
  ·walk_at "ev"
  ·walk_at "ev"
  ·walk_at "ev"
  refine pS (p:=.raw v) (n9 G (ps:=[.raw v,.raw v,.raw v]) (by kernel_rfl) (by kernel_rfl) (mz ?_ (mz ?_ (mz ?_ mI))) (C8 hh hv)) ?_
  ·walk_at "ev"
  ·walk_at "ev"
  ·walk_at "ev"
  refine pS (p:=.fx f2) (mJ (p:=.fx f) (q:=.fx f) (qQ (v:=v) ?_ λg=>hv.rep g) (qQ (v:=v) ?_ λg=>hv.rep g) (qB e0)) ?_
  ·walk_at "ev"
  ·walk_at "ev"
  refine pS (p:=range) (mJ (p:=.fx f) (q:=.fx f) (qQ (v:=v) ?_ λg=>hv.rep g) (qQ (v:=v) ?_ λg=>hv.rep g) (nQ e1)) ?_
  ·walk_at "ev"
  ·walk_at "ev"
  refine uS (P:=λp=> ∃u,p= .raw u/\Fl g u) ?he (λq W8=> ?_)
  case he=>
   refine JX (p:=.fx f2) (q:=.fx (fN 2)) ?_ ?_ ?_
   ·walk_at "ev"
   ·walk_at "ev"
   ·exact Iv e2
  refine mR W8 ?_;clear W8;intro u T1 hu;obtain rfl:=T1
  refine pE.of (sX (J:=ux g' X (.tup [.fx (fN 0),.raw u,.fx (fN 0)])) ?_ (λz i=>i) (λz z r=>⟨_,⟨u,hu,rfl⟩,r⟩))
  refine m9 (d:=ai) (mY (p:=.fx f) (q:=.fx f) (qQ (v:=v) ?_ λg=>hv.rep g) (qQ (v:=v) ?_ λg=>hv.rep g) (ee▸AQ)) (λz=> ?_) (λc=>by exact ro c)
  ·walk_at "ev"
  ·walk_at "ev"
  refine ng (ou (ps:=[.fx (fN 0),.raw u,.fx (fN 0)]) (mz ?_ (mz ?_ (mz ?_ mI))) (by have:=aw;simp;exact (my (.i (.e xA xL) (.l xO xA)) [_]) this))<;>walk_at "ev"
end
end
section
open PySem.Calls PyProof.Rows PySem.SeqAt
def tg (h:aW):Prop:= ∃m,h.Ns iZ m/\m sharingNotToldKey=az
theorem tg.keep (a:tg h) (k:mU h h'):tg h':=let ⟨m,n,e⟩:=a;⟨m,n.keeps k,e⟩
section
variable {prog:aH} {w:av} {A:aX} {X:List aF} {s:aq}
theorem Bk (S:tg s.heap) {Q:Bool->aq->Prop} (h:Q false s):aC (aI prog w) A (sharingNotTold t) Q E s:=by
 refine mR S λm n e=> ?_
 exact ae (wpAny_nsGet n (by exact e▸(aj h)))
theorem N0 (S:tg s.heap) (hv:Fl f v) (hu:Fl g u) (e:sU f g=ai):EqAt A s v u ai:=λprog w E Q hq=>by
 refine nh hv ?_;clear hv;intro x t T1 fx t0;obtain rfl:=T1
 refine nh hu ?_;clear hu;intro y t' T1 fy t0';obtain rfl:=T1
 refine bL ?_
 refine wpAny_ite_split (λhab=>ae (gJ (aj hq))) (λj=> ?_)
 have last:aC (aI prog w) A (do let r <-richCompare .Eq (.float x t) (.float y t');truthOfDropped r) Q E s:=
  ae (jX (fO (by exact (Iy fx fy)▸e▸hq)))
 have sm:aC (aI prog w) A (isSame (.float x t) (.float y t')) (λb s'=>s'=s) E s:=by
  show aC _ _ (isSame.created (x==y&& !Float64.isNaN x) t t') _ _ _
  unfold isSame.created
  have z:(t==0||t'==0)=false:=by simp [t0,t0']
  rw [z]
  simp only [a9,if_false,pure_bind]
  have P: ∀b:Bool,aC (aI prog w) A (bG b) (λb s'=>s'=s) E s:=λb=>aj rfl
  by_cases c1:(t==t')=ai
  ·exact (if_pos c1)▸(P _)
  rw [if_neg c1]
  by_cases c2:(!(x==y&& !Float64.isNaN x))=ai
  ·exact (if_pos c2)▸(P _)
  rw [if_neg c2]
  refine ae (Bk S ?_)
  simp only [a9,if_false,pure_bind]
  refine ae (Bk S ?_)
  simp only [a9,if_false,pure_bind]
  intro Γ p hΓ
  exact rfl
 refine ae (ab sm (λb s' e'=> ?_) λz z e=>e)
 subst e'
 cases b with
 |true=>exact aj hq
 |false=>exact last
end
section
variable {prog:aH} {w:av} {A:aX} {X:List aF} {I:aW->Prop}
def CT (I:aW->Prop) (A:aX) (X:List aF) (p q:PV) (b:Bool):Prop:= ∀(s:aq) (v u:ay),I s.heap->mP X s.heap p v->mP X s.heap q u->EqAt A s v u b/\(v=u->b=ai)
def Ek (I:aW->Prop) (A:aX) (X:List aF) (l m:List PV) (b:Bool):Prop:= ∀(s:aq) (vs us:List ay),I s.heap->mK X s.heap l vs->mK X s.heap m us->
 vs.length=us.length/\(∃e:Nat->Bool,(∀j (h1:j<vs.length) (h2:j<us.length),EqAt A s vs[j] us[j] (e j))/\(ag vs.length).all e=b)/\(vs=us->b=ai)
theorem Pi:CT I A X (.raw v) (.raw v) ai:=λs x u i r q=>by
 subst r q
 exact ⟨EqAt.same _,λz=>rfl⟩
theorem BV:CT I A X (.fx f) (.int n) (sU f (xd n)):=λs v u i r q=>by
 refine oU r ?_;clear r;intro x t T1 fx;obtain rfl:=T1;obtain ⟨t',rfl⟩:=q
 refine ⟨λprog w E Q hq=> ?_,λh=>nomatch h⟩
 refine bL ?_
 refine wpAny_ite_split (λhab=>absurd (gC hab) nofun) (λz=> ?_)
 exact ae (eq_fi (fO (by rw [yK fx];exact hq)))
theorem A4:Ek I A X [] [] ai:=λs vs us i r q=>by
 subst r q
 exact ⟨rfl,⟨λz=>ai,λj h1=>absurd h1 (jM _),rfl⟩,λz=>rfl⟩
theorem si (h:CT I A X p q a) (hs:Ek I A X l m b):Ek I A X (p::l) (q::m) (a&&b):=λs vs us i r k=>by
 refine nh r ?_;clear r;intro v V8 T1 r1 r2;obtain rfl:=T1
 refine nh k ?_;clear k;intro u Ww T1 k1 k2;obtain rfl:=T1
 refine eA (h s v u i r1 k1) λh1 h1'=> ?_
 obtain ⟨hn,⟨e,he,hb⟩,hv⟩:=hs s V8 Ww i r2 k2
 refine ⟨by simp [hn],⟨λj=>match j with|0=>a|j+1=>e j,?_,?_⟩,λhh=> ?_⟩
 ·intro j g1 g2
  cases j with
  |zero=>exact h1
  |succ j=>exact he j (by simpa using g1) (by simpa using g2)
 ·rw [aU,kr,iL,List.all_map,<-hb];rfl
 ·injection hh with e1 e2
  rw [h1' e1,hv e2];rfl
theorem GK (hu:A.units<fw) (h:Ek I A.in1 X l m b): ∀(s:aq) (v u:ay),I s.heap->mP X s.heap (.tup l) v->mP X s.heap (.tup m) u->RcAt A s v u b/\(v=u->b=ai):=λs v u i r q=>by
 refine ni r ?_;clear r;intro a vs T1 _ t r;obtain rfl:=T1
 refine ni q ?_;clear q;intro a' us T1 _ t' q;obtain rfl:=T1
 obtain ⟨hn,⟨e,he,hb⟩,hv⟩:=h s vs us i r q
 refine ⟨?_,λhh=> ?_⟩
 ·have:=RcAt.tuples (A:=A) (e:=e) t t' hu (λj h1 h2=>by simpa using he j (by simpa using h1) (by simpa using h2))
  rw [<-hb];simpa [hn] using this
 ·cases hh
  exact hv (by simpa using Bu t t')
theorem CT.ofTup (hu:A.units<fw) (h:Ek I A.in1 X l m b):CT I A X (.tup l) (.tup m) b:=λs v u i r q=>
 by
  obtain ⟨x,y⟩:=GK hu h s v u i r q
  refine oU r ?_;clear r;intro a vs T1 _;obtain rfl:=T1
  refine oU q ?_;clear q;intro a' us T1 _;obtain rfl:=T1
  exact ⟨Fa (λe=>y (by rw [e])) x,y⟩
theorem Qr (hI: ∀h,I h->tg h) (hv:Fl f v) (hu:Fl g u) (e:sU f g=ai):CT I A X (.raw v) (.raw u) ai:=λs x y i r q=>by
 subst r q
 exact ⟨N0 (hI _ i) hv hu e,λz=>rfl⟩
end
end
section
open PySem.Calls PyProof.Rows
structure ND (prog:aH) (w:av) (φ:Fs) (pos:Pos) (es:List Expr) (P:List PV->Prop):Prop where
 run: ∀s:aq,φ.I s.heap->0<s.toks->aC (aI prog w) φ.A (spliced (fb pos (aE es φ.env))) (λvs s'=>bB s s'/\ ∃ps,P ps/\mK φ.X s'.heap ps vs) (λz z=>False) s
section
variable {prog:aH} {w:av} {φ:Fs}
theorem QZ (h:tG prog w φ pos es ps) (hp:P ps):ND prog w φ pos es P:=.mk λs i z=>ab (h.run s i) (λv s' uu=>eA uu λk r=>⟨k,ps,hp,r⟩) λz z e=>e
theorem ET (h:Et prog w φ e P) (hs:ND prog w φ pos es P') (hR: ∀p ps,P p->P' ps->R (p::ps))
  (he:autoParam (aE (e::es) φ.env=(false,bJ e φ.env)::aE es φ.env) XZ):ND prog w φ pos (e::es) R:=.mk λs i t0=>
 cB (pR (ab (h.run s i t0) (λv T0 uu tk=>oV uu λT2 p hp T5=>ab (hs.run T0 (φ.mono' i T2) (bg t0 tk)) (λvs T3 uu=>oV uu λT4 ps WX Uh=>⟨mH T2 T4,_,hR p ps hp WX,mK.cons (T5.keep (mG T4)) Uh⟩) λz z e=>e) λz z e=>e)) he
theorem QF (hs:ND prog w φ pos es P) (hz: ∀ps,P ps->ps.length<=bn/\P' (.tup ps)):Et prog w φ (.Tuple es k pos) P':=.mk λs i t0=>
 wpAny_Tuple (ab (hs.run s i t0) (λvs T0 uu=>oV uu λT2 ps hp T5=>⟨by exact T5.len▸((hz ps hp).1),mH T2 (mZ _ _ _),_,(hz ps hp).2,by
  exact ⟨_,vs,rfl,oP (φ.live _ (φ.mono' i T2)),⟨_,au _ rfl,rfl,_,rfl⟩,T5.keep (mG (mZ T0 _ T0.toks))⟩⟩) λz z e=>e)
theorem Q1 (hl:Et prog w φ l P) (hr:Ev prog w φ r q)
  (ho: ∀p,P p-> ∀(s:aq) (x y:ay),φ.I s.heap->mP φ.X s.heap p x->mP φ.X s.heap q y->aC (aI prog w) φ.A (bP op x y) (λv s'=>bB s s'/\ ∃r,P' r/\mP φ.X s'.heap r v) (λz z=>False) s)
  (hm:autoParam (lu op r=false) XX):Et prog w φ (.Compare l [op] [r] pos) P':=.mk λs i t0=>
 wpAny_Compare1 (ab (hl.run s i t0) (λa T0 uu=>oV uu λT2 p hp T5=>ab (hr.run T0 (φ.mono' i T2)) (λb T3 uu=>eA uu λT4 Uh=>
  ab (ho p hp T3 a b (φ.mono' i (mH T2 T4)) (T5.keep (mG T4)) Uh) (λz z uu=>eA uu λUc Uj=>⟨mH T2 (mH T4 Uc),Uj⟩) λz z e=>e) λz z e=>e) λz z e=>e) hm
theorem O7 (hx:Ev prog w φ x p) (t:tO prog w φ.A φ.X p ai) (hy:Et prog w φ y P):Et prog w φ (.BoolOp .And [x,y] pos) P:=.mk λs i t0=>
 wpAny_And2 (pR (ab (hx.run s i) (λv T0 uu tk1=>eA uu λT2 T5=>pR (ab (t T0 v T5) (λc T3 uu tk2=>eA uu λT4 e=>by
  subst e
  exact ab (hy.run T3 (φ.mono' i (mH T2 T4)) (bg t0 (ch tk1 tk2))) (λz z uu=>eA uu λUc Uj=>⟨mH T2 (mH T4 Uc),Uj⟩) λz z e=>e) λz z e=>e)) λz z e=>e))
end
end
section
open PySem.Calls PyProof.Rows PySem.Builtin.Str
section
variable {w:av}
theorem z0:rS (.int 0) (.fx (fN 0))=ai:=by decide+kernel
theorem Tg (h l:PV):ss h (.int 0) l=aa (.tup [l,l,l]):=by unfold ss;rw [z0];rfl
theorem SM (h l:PV):wa h l (.int 0)=aa (.tup [l,l,l]):=by unfold wa;rw [z0];rfl
theorem z1:sU (fN 0) (xd 0)=ai:=by decide+kernel
theorem IP (hv:Fl f v) (e0:qE (.fx f) (.fx f)=aa (.fx f2)) (e1:nR (.fx f) (.fx f)=aa range) (e2:zd f2 (fN 2)=aa f) (ee:sU f f=ai):
  zN mu w 3 316 tg [.raw v,UP] (λq=>q= .bool ai):=by
 refine yR ["value","way"] (M7 _) (λvs e=> ?_) (λA X g' L lx hS G=> ?_)
 ·refine rN (FT e) λz z T1=> ?_;obtain rfl:=T1;kernel_rfl!
 ·have hh:(A.deeper (bf wG L 316)).handled=az:=G.room.1
  have hz:=aw
  have hu:(A.deeper (bf wG L 316)).units+64<fw:=by have:=G.room.2.2;simp only [mV] at this;exact (my (.i (.b (.a (.a xA (.m 10 xM)) xP) xB) (.b (.a xA (.c 64)) xB)) [_,_]) this
  have hu0:(A.deeper (bf wG L 316)).units<fw:=by exact (my (.i (.b (.a xA (.c 64)) xB) (.b xA xB)) [_,_]) hu
  have hu1:(A.deeper (bf wG L 316)).in1.units<fw:=by exact (my (.i (.b (.a xA (.c 64)) xB) (.b (.a xA xI) xB)) [_,_]) hu
  have G1:Gd w 1 (mV wG 316 A X [] g' L):=⟨G.base,G.off,G.room.less (by exact my (.l xI xM) [] []),rfl,rfl,rfl⟩
  have hI: ∀h,(fs (mV wG 316 A X [] g' L) [("told",.list [.tup [.raw v,.raw v,.raw v],.tup [.raw v,.raw v,.raw v]]),("grey",.tup [.raw v,.raw v,.raw v]),("value",.raw v),("way",UP)] []).I h->tg h:=λh i=>hS.keep (In.keep i)
  refine pS (p:=.tup [.raw v,.raw v,.raw v]) (ou (ps:=[.raw v,.raw v,.raw v]) (mz ?_ (mz ?_ (mz ?_ mI))) (by simp;exact (my (.i (.e xA xL) (.l xO xA)) [_]) hz)) ?_
  ·walk_at "ev"
  ·walk_at "ev"
  ·walk_at "ev"
  refine pS (p:=.list [.tup [.raw v,.raw v,.raw v],.tup [.raw v,.raw v,.raw v]]) (pX (ps:=[.tup [.raw v,.raw v,.raw v],.tup [.raw v,.raw v,.raw v]]) (mz (oE G (ps:=[UP,.int 0,.raw v]) (by kernel_rfl) (DW _).e (mz ?_ (mz ?_ (mz ?_ mI))) (A6 rfl (Tg _ _))) (mz (oE G (ps:=[UP,.raw v,.int 0]) (by kernel_rfl) (H8 _).e (mz ?_ (mz ?_ (mz ?_ mI))) (Ey rfl (SM _ _))) mI)) (by simp;exact (my (.i (.e xA xL) (.l xM xA)) [_]) hz)) ?_
  ·walk_at "ev"
  ·walk_at "ev"
  ·walk_at "ev"
  ·walk_at "ev"
  ·walk_at "ev"
  ·walk_at "ev"
  refine Mg ?_
  refine O7 (p:=.bool ai) ?h1 qu ?h2
  case h1=>
   refine uX (p:=.list [.tup [.raw v,.raw v,.raw v],.tup [.raw v,.raw v,.raw v]]) (q:=.list [.tup [.raw v,.raw v,.raw v],.tup [.raw v,.raw v,.raw v]]) ?_ (pX (mz ?_ (mz ?_ mI)) (by simp;exact (my (.i (.e xA xL) (.l xM xA)) [_]) hz)) (Gr hu0 (sn (GT.ofTup hu1 (sn vE (sn vE (sn vE AO)))) (sn (GT.ofTup hu1 (sn vE (sn vE (sn vE AO)))) AO)))
   ·walk_at "ev"
   ·walk_at "ev"
   ·walk_at "ev"
  case h2=>
   refine Q1 (P:=λp=> ∃u,Fl f u/\p= .tup [.tup [.fx (fN 0),.fx (fN 0),.raw v],.tup [.fx (fN 0),.raw u,.fx (fN 0)]]) (q:=.tup [.tup [.int 0,.int 0,.raw v],.tup [.int 0,.raw v,.int 0]]) ?l ?r ?o
   case l=>
    refine QF (P:=λps=> ∃u,Fl f u/\ps=[.tup [.fx (fN 0),.fx (fN 0),.raw v],.tup [.fx (fN 0),.raw u,.fx (fN 0)]]) ?a (λps hp=> ?b)
    case a=>
     refine ET (P:=λp=>p= .tup [.fx (fN 0),.fx (fN 0),.raw v]) (P':=λps=> ∃u,Fl f u/\ps=[.tup [.fx (fN 0),.raw u,.fx (fN 0)]]) (Nb (oE G1 (ps:=[.raw v,.raw v,.raw v]) (by kernel_rfl) (vD _).e (mz ?_ (mz ?_ (mz ?_ mI))) (Ky hv e1 ee)) rfl) ?t (λp ps hp WX=>by refine mR WX ?_;clear WX;intro u hu T1;obtain rfl:=T1;exact ⟨u,hu,by rw [hp]⟩)
     ·walk_at "ev"
     ·walk_at "ev"
     ·walk_at "ev"
     case t=>
      refine ET (P:=λq=> ∃u,Fl f u/\q= .tup [.fx (fN 0),.raw u,.fx (fN 0)]) (P':=λps=>ps=[]) (IF G1 (I₀:=λz=>True) (ps:=[.raw v,.raw v,.raw v]) (by kernel_rfl) (DZ _).e (mz ?_ (mz ?_ (mz ?_ mI))) (HN hv e0 e1 e2 ee) trivial (λz z z z=>trivial)) (QZ mI rfl) (λp ps hp WX=>by refine mR hp ?_;clear hp;intro u hu T1;obtain rfl:=T1;exact ⟨u,hu,by rw [WX]⟩)
      ·walk_at "ev"
      ·walk_at "ev"
      ·walk_at "ev"
    case b=>
     refine mR hp ?_;clear hp;intro u hu T1;obtain rfl:=T1
     exact ⟨by simp;exact (my (.i (.e xA xL) (.l xM xA)) [_]) hz,u,hu,rfl⟩
   case r=>
    refine ou (mz (ou (mz ?_ (mz ?_ (mz ?_ mI))) (by simp;exact (my (.i (.e xA xL) (.l xO xA)) [_]) hz)) (mz (ou (mz ?_ (mz ?_ (mz ?_ mI))) (by simp;exact (my (.i (.e xA xL) (.l xO xA)) [_]) hz)) mI)) (by simp;exact (my (.i (.e xA xL) (.l xM xA)) [_]) hz)
    ·walk_at "ev"
    ·walk_at "ev"
    ·walk_at "ev"
    ·walk_at "ev"
    ·walk_at "ev"
    ·walk_at "ev"
   case o=>
    intro p hp s x y i rp rq
    refine mR hp ?_;clear hp;intro u hu' T1;obtain rfl:=T1
    have E:=GK (I:=tg) (X:=(mV wG 316 A X [] g' L).X) hu0 (si (CT.ofTup hu1 (si (BV (f:=fN 0) (n:=0)) (si (BV (f:=fN 0) (n:=0)) (si (Pi (v:=v)) A4)))) (si (CT.ofTup hu1 (si (BV (f:=fN 0) (n:=0)) (si (Qr (λz h=>h) hu' hv ee) (si (BV (f:=fN 0) (n:=0)) A4)))) A4))
    have S:tg s.heap:=hS.keep (In.keep i)
    rw [z1] at E
    exact (E s x y S rp rq).1 mu w _ _ ⟨mO _,.bool ai,rfl,by rfl⟩
end
end
section
open PySem.Calls PyProof.Rows
section
variable {prog:aH} {w:av} {φ:Fs}
theorem O4 (h:C7 prog w φ x b):C7 prog w φ (.UnaryOp .Not x pos) (!b):=.mk λs i t0=>
 wpAny_isTrue_Not (ab (h.run s i t0) (λc s' uu=>eA uu λk e=>⟨k,by rw [e]⟩) λz z e=>e)
theorem N2 (h:Et prog w φ e (λq=>q=p)) (t:tO prog w φ.A φ.X p b)
  (he:autoParam (isTrue e φ.env (bJ e φ.env)=(do let v <-bJ e φ.env;iv e.pos;gU [v] (truthy v))) XZ):C7 prog w φ e b:=.mk λs i t0=>
 jD (ab (h.run s i t0) (λv T0 uu=>oV uu λT2 q hq T5=>by
  subst hq
  exact ab (t T0 v T5) (λc T3 uu=>eA uu λT4 e=>⟨mH T2 T4,e⟩) λz z e=>e) λz z e=>e) he
theorem QY (hx:Tr prog w φ x false) (hy:C7 prog w φ y b):C7 prog w φ (.BoolOp .Or [x,y] pos) b:=.mk λs i t0=>
 wpAny_isTrue_BoolOp (iP (pR (ab (hx.run s i) (λc T0 uu tk=>eA uu λk e=>by
  subst e
  exact iP (ab (hy.run T0 (φ.mono' i k) (bg t0 tk)) (λc T3 uu=>eA uu λk' e'=>by
   subst e'
   cases c with
   |true=>exact ⟨mH k k',rfl⟩
   |false=>exact wpAny_allTrue_Or_nil ⟨mH k k',rfl⟩) λz z e=>e)) λz z e=>e)))
end
section
variable {w:av} {c:Sc} {σ:mX} {Λ:List (aF×List PV)}
end
end
section
open PySem.Calls PyProof.Rows PySem.Builtin.Str
noncomputable def po (p:Nat):Fx:=⟨false,de p (iD 2 1067)⟩
noncomputable def HW (x:Option PV) (f:Fx):Bool:=match x with
 |some (.fx g)=>cond g.s false (bN g.m f.m)
 |_=>false
def QJ (p:Nat):Bool:=HW (vk (ff p)) (po p)
set_option tactic.hygienic true in
theorem Hm (h:HW x (po p)=ai):x=aa (.fx (po p)):=by
 unfold HW at h
 split at h
 ·rename_i g
  obtain ⟨s,m⟩:=g
  cases s with
  |true=>exact oJ h
  |false=>
   have:=bO h
   rw [show m=(po p).m from this];rfl
 ·exact oJ h
theorem OL:(ag 128).all QJ=ai:=by decide+kernel
theorem D2 {p:Nat} (h:p<128):vk (p:Int)=aa (.fx (po p)):=Hm (bq.mp OL p (aL.mpr h))
def KF (n m:Nat):Bool:=HW (qE (.fx (po n)) (.fx (po m))) (po (n+m))
noncomputable def nu (k:Nat):Fx:=⟨false,de k (iD 2 1072)⟩
noncomputable def w4 (a b:Fx):Bool:=cond a.s false (cond b.s false (bN a.m b.m))
def HG (s v l d:Fx) (p:Nat):Bool:=match (ss (.fx (po p)) (.fx s) (.fx v)).bind qr with
 |some (r,g,b)=>(match (oz (.fx r) (.fx g) (.fx b)).bind qr with
   |some (x,y,z)=>w4 x (po p)&&w4 y s&&w4 z v
   |none=>false)&&(match (uL (.fx r) (.fx g) (.fx b)).bind qr with
   |some (x,y,z)=>w4 x (po p)&&w4 y l&&w4 z d
   |none=>false)
 |none=>false
def HV (s v:Fx):Fx×Fx:=match (ss (.fx (po 0)) (.fx s) (.fx v)).bind qr with
 |some (r,g,b)=>(match (uL (.fx r) (.fx g) (.fx b)).bind qr with
   |some (_,y,z)=>(y,z)
   |none=>(⟨false,0⟩,⟨false,0⟩))
 |none=>(⟨false,0⟩,⟨false,0⟩)
def MP (s v:Fx):Bool:=match HV s v with
 |(l,d)=>(ag 128).all (HG s v l d)
noncomputable def xg:List (Nat×Nat):=[(1,4),(2,4),(3,3),(4,3),(1,2),(2,2),(3,1),(4,1)]
theorem L2:xg.all (λq=>MP (nu q.1) (nu q.2))=ai:=by decide+kernel
theorem H6:(ag 128).all (λn=>(ag 128).all (KF n))=ai:=by decide+kernel
def ID (s v:Fx) (m:Nat):Bool:=match (ss (.fx (po (m+128))) (.fx s) (.fx v)).bind qr with
 |some (r,g,b)=>(match (oz (.fx r) (.fx g) (.fx b)).bind qr with
   |some (x,y,z)=>w4 x (po m)&&w4 y s&&w4 z v
   |none=>false)
 |none=>false
noncomputable def HZ (x:Option Int) (n:Nat):Bool:=match x with
 |some (.ofNat k)=>bN k n
 |_=>false
noncomputable def Hv (x y:Option Int):Bool:=match x,y with
 |some (.ofNat k),aa (.ofNat n)=>bN k n
 |_,_=>false
def IX (s v l d:Fx) (n:Nat):Bool:=match (wa (.fx (po n)) (.fx l) (.fx d)).bind qr with
 |some (r,g,b)=>(match (oz (.fx r) (.fx g) (.fx b)).bind qr with
   |some (a,c,e)=>HZ (nZ a) (kF n 128)&&Hv (nZ c) (nZ s)&&Hv (nZ e) (nZ v)
   |none=>false)
 |none=>false
def IU (s v l:Fx):Bool:=match pF (.int 2) (.fx l),(nR (.int 2) (.fx s)).bind λc=>pF (.fx v) c with
 |some a,aa d=>rS a d&&Hv (nZ s) (nZ s)&&Hv (nZ v) (nZ v)
 |_,_=>false
def wh (s v:Fx):Bool:=match HV s v with
 |(l,d)=>IU s v l&&(ag 127).all (ID s v)&&(ag 255).all (IX s v l d)
theorem d1:wh (nu 1) (nu 4)=ai:=by decide+kernel
theorem d2:wh (nu 2) (nu 4)=ai:=by decide+kernel
theorem d3:wh (nu 3) (nu 3)=ai:=by decide+kernel
theorem d4:wh (nu 4) (nu 3)=ai:=by decide+kernel
theorem d5:wh (nu 1) (nu 2)=ai:=by decide+kernel
theorem d6:wh (nu 2) (nu 2)=ai:=by decide+kernel
theorem d7:wh (nu 3) (nu 1)=ai:=by decide+kernel
theorem d8:wh (nu 4) (nu 1)=ai:=by decide+kernel
theorem Ly (h:q∈xg):wh (nu q.1) (nu q.2)=ai:=by
 simp only [xg,ao,fD,or_false] at h
 rcases h with rfl|rfl|rfl|rfl|rfl|rfl|rfl|rfl
 ·exact d1
 ·exact d2
 ·exact d3
 ·exact d4
 ·exact d5
 ·exact d6
 ·exact d7
 ·exact d8
theorem LX:(ag 128).all (λn=>HZ (nZ (po n)) n)=ai:=by decide+kernel
theorem tC (h:w4 a b=ai):a=b:=by
 obtain ⟨s,m⟩:=a
 obtain ⟨s',m'⟩:=b
 cases s<;>cases s'
 ·have:=bO h
  dsimp only at this;rw [this]
 ·exact oJ h
 ·exact oJ h
 ·exact oJ h
theorem G8 (h:HZ x n=ai):x=aa (n:Int):=by
 unfold HZ at h
 split at h
 ·rw [bO h];rfl
 ·exact oJ h
set_option tactic.hygienic true in
theorem BE (h:Hv x y=ai): ∃k:Int,x=aa k/\y=aa k:=by
 unfold Hv at h
 split at h
 ·rename_i a b
  exact ⟨_,rfl,by rw [bO h]⟩
 ·exact oJ h
set_option tactic.hygienic true in
theorem GC (h:HG s v l d p=ai): ∃q:Fx×Fx×Fx,(ss (.fx (po p)) (.fx s) (.fx v)).bind qr=aa q/\(oz (.fx q.1) (.fx q.2.1) (.fx q.2.2)).bind qr=aa (po p,s,v)/\(uL (.fx q.1) (.fx q.2.1) (.fx q.2.2)).bind qr=aa (po p,l,d):=by
 unfold HG at h
 split at h
 ·rename_i r g b e
  refine ⟨_,e,?_⟩
  rw [bI] at h
  refine eA h λh1 h2=> ?_
  split at h1
  ·rename_i x y z e1
   split at h2
   ·rename_i x' y' z' e2
    simp only [bI] at h1 h2
    rw [e1,e2,tC h1.1.1,tC h1.1.2,tC h1.2,tC h2.1.1,tC h2.1.2,tC h2.2]
    exact ⟨rfl,rfl⟩
   ·exact oJ h2
  ·exact oJ h1
 ·exact oJ h
set_option tactic.hygienic true in
theorem OV (h:ID s v m=ai): ∃q:Fx×Fx×Fx,(ss (.fx (po (m+128))) (.fx s) (.fx v)).bind qr=aa q/\(oz (.fx q.1) (.fx q.2.1) (.fx q.2.2)).bind qr=aa (po m,s,v):=by
 unfold ID at h
 split at h
 ·rename_i r g b e
  refine ⟨_,e,?_⟩
  split at h
  ·rename_i x y z e1
   simp only [bI] at h
   rw [e1,tC h.1.1,tC h.1.2,tC h.2]
  ·exact oJ h
 ·exact oJ h
set_option tactic.hygienic true in
theorem Pc (h:IX s v l d n=ai): ∃q u:Fx×Fx×Fx,(wa (.fx (po n)) (.fx l) (.fx d)).bind qr=aa q/\(oz (.fx q.1) (.fx q.2.1) (.fx q.2.2)).bind qr=aa u/\nZ u.1=aa ((n % 128:Nat):Int)/\ ∃j k:Int,nZ u.2.1=aa j/\nZ s=aa j/\nZ u.2.2=aa k/\nZ v=aa k:=by
 unfold IX at h
 split at h
 ·rename_i r g b e
  split at h
  ·rename_i x y z e1
   simp only [bI] at h
   refine mR (BE h.1.2) λj j1 j2=> ?_
   refine mR (BE h.2) λk k1 k2=> ?_
   exact ⟨(r,g,b),(x,y,z),e,e1,G8 h.1.1,j,k,j1,j2,k1,k2⟩
  ·exact oJ h
 ·exact oJ h
set_option tactic.hygienic true in
theorem Pn (h:IU s v l=ai): ∃a c d:PV,∃j k:Int,pF (.int 2) (.fx l)=aa a/\nR (.int 2) (.fx s)=aa c/\pF (.fx v) c=aa d/\rS a d=ai/\nZ s=aa j/\nZ v=aa k:=by
 unfold IU at h
 split at h
 ·rename_i a d e1 e2
  refine mR (bd.mp e2) λc c1 c2=> ?_
  simp only [bI] at h
  refine mR (BE h.1.2) λj j1 _=> ?_
  refine mR (BE h.2) λk k1 _=> ?_
  exact ⟨a,c,d,j,k,e1,c1,c2,h.1.1,j1,k1⟩
 ·exact oJ h
theorem MS (h:KF n m=ai):qE (.fx (po n)) (.fx (po m))=aa (.fx (po (n+m))):=by
 exact Hm h
theorem Ou (hn:n<128) (hm:m<128):qE (.fx (po n)) (.fx (po m))=aa (.fx (po (n+m))):=by
 exact MS (bq.mp (bq.mp H6 n (aL.mpr hn)) m (aL.mpr hm))
theorem KP (hn:n<128):nZ (po n)=aa (n:Int):=G8 (bq.mp LX n (aL.mpr hn))
theorem Iu (h:x.bind qr=aa q): ∃t,x=aa t/\qr t=aa q:=bd.mp h
theorem r6 {α β:Type} {x:Option α} {a:α} {f:α->Option β} {r:Option β} (h:x=aa a) (k:f a=r):x.bind f=r:=by rw [h];exact k
theorem B2 {β:Type} {x:Option PV} {f:Fx×Fx×Fx->Option β} {r:Option β} (h:x.bind qr=aa q) (k:f q=r):(x.bind λt=>(qr t).bind f)=r:=by
 refine mR (Iu h) λt h1 h2=> ?_
 exact r6 h1 (r6 h2 k)
theorem Fb {j k:Int} {z:Nat}:(aa (((z:Int)+64*(if (!(j==j&&k==k)|| !ai)=ai then 1 else 0)).fmod 128):Option Int)=aa ((z % 128:Nat):Int):=by
 simp only [beq_self_eq_true,Bool.and_self,iN,Bool.or_self,a9,if_false]
 rw [bM _ (by decide)]
 congr 1
theorem LW {n:Nat} (hb:(b !=0)=ai) (e1:vk p=aa h) (e2:(ss h (.fx s) (.fx v)).bind qr=aa q) (e3:vk a=aa UP) (e4:(uL (.fx q.1) (.fx q.2.1) (.fx q.2.2)).bind qr=aa (hu,l,d))
  (s1:pF (.int 2) (.fx l)=aa x) (s2:nR (.int 2) (.fx s)=aa c) (s3:pF (.fx v) c=aa y) (s4:rS x y=ai) (e5:qE (.fx hu) UP=aa hh) (e6:(wa hh (.fx l) (.fx d)).bind qr=aa q2) (e7:(oz (.fx q2.1) (.fx q2.2.1) (.fx q2.2.2)).bind qr=aa u)
  (h3:nZ u.1=aa (n:Int)) (h4:nZ u.2.1=aa j) (h5:nZ u.2.2=aa k) (h6:nZ s=aa j) (h7:nZ v=aa k):wQ p a b s v=aa ((n % 128:Nat):Int):=by
 refine r6 e1 (B2 e2 (r6 e3 ?_))
 rw [hb]
 refine mR (Iu e6) λt k1 k2=> ?_
 refine r6 (a:=(ai,t)) (B2 e4 (r6 s1 (r6 s2 (r6 s3 (r6 e5 (r6 k1 (by rw [s4]))))))) ?_
 exact r6 k2 (B2 e7 (r6 h3 (r6 h4 (r6 h5 (r6 h6 (r6 h7 Fb))))))
theorem MW {n:Nat} (hb:(b !=0)=false) (e1:vk p=aa h) (e2:(ss h (.fx s) (.fx v)).bind qr=aa q) (e3:vk a=aa UP) (e4:(oz (.fx q.1) (.fx q.2.1) (.fx q.2.2)).bind qr=aa (hu,s',v'))
  (e5:qE (.fx hu) UP=aa hh) (e6:(ss hh (.fx s') (.fx v')).bind qr=aa q2) (e7:(oz (.fx q2.1) (.fx q2.2.1) (.fx q2.2.2)).bind qr=aa u)
  (h3:nZ u.1=aa (n:Int)) (h4:nZ u.2.1=aa j) (h5:nZ u.2.2=aa k) (h6:nZ s=aa j) (h7:nZ v=aa k):wQ p a b s v=aa ((n % 128:Nat):Int):=by
 refine r6 e1 (B2 e2 (r6 e3 ?_))
 rw [hb]
 refine mR (Iu e6) λt k1 k2=> ?_
 refine r6 (a:=(ai,t)) (B2 e4 (r6 e5 (r6 k1 rfl))) ?_
 exact r6 k2 (B2 e7 (r6 h3 (r6 h4 (r6 h5 (r6 h6 (r6 h7 Fb))))))
theorem NS (hA: ∀p,p<128->HG s v l d p=ai) (hS:IU s v l=ai) (hC: ∀p,p<127->ID s v p=ai) (hL: ∀p,p<255->IX s v l d p=ai) {p a:Nat} (hp:p<128) (ha:a<128):wQ p a b s v=aa (((p+a) % 128:Nat):Int):=by
 refine Gm (Pn hS) λx c y j k s1 s2 s3 s4 s5 s6=> ?_
 refine tF (GC (hA p hp)) λq0 a1 a2 a3=> ?_
 have sm:=Ou hp ha
 have hq:=D2 hp
 have hr:=D2 ha
 have UA: ∀n:Nat,n=(p+a) % 128->(((p+a) % 128:Nat):Int)=((n % 128:Nat):Int):=λn e=>by exact (my (.i (.e xC (.e (.a xA xB) 128)) (.E (.k (.e (.a xA xB) 128)) (.k (.e xC 128)))) [_,_,_]) e
 cases hb:(b !=0) with
 |true=>
  refine Gq (Pc (hL (p+a) (by exact (my (.i (.b xA xR) (.i (.b xB xR) (.b (.a xA xB) (.c 255)))) [_,_]) hp ha))) λq2 u l1 l2 l3 j' k' l4 l5 l6 l7=> ?_
  rw [s5] at l5
  rw [s6] at l7
  obtain rfl:=am l5
  obtain rfl:=am l7
  rw [UA _ rfl]
  exact LW hb hq a1 hr a3 s1 s2 s3 s4 sm l1 l2 l3 l4 l6 s5 s6
 |false=>
  have: ∃q2:Fx×Fx×Fx,(ss (.fx (po (p+a))) (.fx s) (.fx v)).bind qr=aa q2/\(oz (.fx q2.1) (.fx q2.2.1) (.fx q2.2.2)).bind qr=aa (po ((p+a) % 128),s,v):=by
   rcases dI (p+a) 128 with h|h
   ·refine tF (GC (hA (p+a) h)) λq2 b1 b2 z=> ?_
    rw [Nat.mod_eq_of_lt h]
    exact ⟨q2,b1,b2⟩
   ·obtain ⟨m,em⟩: ∃m,p+a=m+128:=⟨p+a - 128,by exact (my (.i (.l xR (.a xA xB)) (.e (.a xA xB) (.a (.s (.a xA xB) xR) xR))) [_,_]) h⟩
    rw [em]
    refine mR (OV (hC m (by exact (my (.i (.b xB xR) (.i (.b xC xR) (.i (.e (.a xB xC) (.a xA xR)) (.b xA (.c 127))))) [_,_,_]) hp ha em))) λq2 b1 b2=> ?_
    rw [show (m+128) % 128=m by exact (my (.i (.b xB xR) (.i (.b xC xR) (.i (.e (.a xB xC) (.a xA xR)) (.e (.e (.a xA xR) 128) xA)))) [_,_,_]) hp ha em]
    exact ⟨q2,b1,b2⟩
  refine mR this λq2 l1 l2=> ?_
  rw [UA _ rfl]
  exact MW hb hq a1 hr a2 sm l1 l2 (KP (fL _ (by decide))) s5 s6 s5 s6
theorem D6 (h:(ag n).all f=ai): ∀p,p<n->f p=ai:=λp hp=>bq.mp h p (aL.mpr hp)
theorem K4 (hA:MP s v=ai) (hD:wh s v=ai) {p a:Nat} (hp:p<128) (ha:a<128):wQ p a b s v=aa (((p+a) % 128:Nat):Int):=by
 unfold MP at hA
 unfold wh at hD
 revert hA hD
 cases HV s v with
 |mk l d=>
  intro hA hD
  rw [bI,bI] at hD
  exact NS (D6 hA) hD.1.1 (D6 hD.1.2) (D6 hD.2) hp ha
theorem NW {p a:Nat} (hq:q∈xg) (hp:p<128) (ha:a<128):wQ p a b (nu q.1) (nu q.2)=aa (((p+a) % 128:Nat):Int):=
 K4 (bq.mp L2 q hq) (Ly hq) hp ha
section
variable {prog:aH} {w:av} {c:Sc} {σ:mX} {Λ:List (aF×List PV)} {base:aW} {outer:List Env} {m:Str}
def uU (base:aW) (outer:List Env) (m:Str) (g:aW) (s:aq) (e:ay) (s':aq):Prop:=
 nB s s'/\g.UpToSlots s'.heap/\ ∃a t tk,e= .ref a/\jf base outer a (.type "ValueError") (.ref t) s'.heap/\s'.heap.TupAt t [.str m tk]
structure sK (c:Sc) (base:aW) (outer:List Env):Prop where
 stack:c.A.frames=aa (c.env::outer)
 stays:base.StaysIn c.g
 frames:c.g.FunFrames base outer
 frame:c.env.frame=aa c.env.locals
 fn:c.env.scope.kind= .function
 fresh:base.get? c.env.locals=az
def wH (c:Sc) (h:aW):Prop:=mU c.g h/\ ∃m,h.Ns c.env.locals m
theorem wH.of (i:In c σ Λ h):wH c h:=⟨i.keep,let ⟨m,n,_⟩:=i.loc;⟨m,n⟩⟩
theorem sK.funs (b:sK c base outer) (f:wH c h):h.FunFrames base (c.env::outer):=
 let ⟨k,m,n⟩:=f
 .cons (by rw [b.fn];decide) b.frame n b.fresh (b.frames.of_keeps λx o e z=>⟨o,k x o e,rfl⟩)
theorem sK.stay (b:sK c base outer) (f:wH c h):base.StaysIn h:=λx o e=>f.1 x o (b.stays x o e)
def z8 (c:Sc) (base:aW) (outer:List Env) (m:Str) (s:aq) (e:ay) (s':aq):Prop:=
 nB s s'/\((∃h a tk,e= .ref a/\wH c h/\aW.MadeExc h s'.heap a "ValueError" [.str m tk])\/ ∃h,wH c h/\h.UpToSlots s'.heap/\ ∃a t tk,e= .ref a/\jf base (c.env::outer) a (.type "ValueError") (.ref t) s'.heap/\s'.heap.TupAt t [.str m tk])
theorem z8.leaves {Q:Unit->aq->Prop} (B:sK c base outer) (t:z8 c base outer m s e Vw) (hQ: ∀s',uU base outer m c.g s e s'->Q () s'):aC M c.A (leaving c.env e) Q E Vw:=by
 obtain ⟨x,t⟩:=t
 rcases t with ⟨h,a,tk,rfl,f,hm⟩|⟨h,f,u,a,t,tk,rfl,fl,ta⟩
 ·refine wpAny_leaves_madeW B.stack B.frame (B.stay f) (B.funs f) hm.of λh' t h1 h2 h3 h4=>hQ _ ⟨?_,?_,a,t,tk,rfl,h1,h2⟩
  ·refine rN x ?_;clear x;intro Ub Vb T1;obtain rfl:=T1
   exact ⟨_,_,rfl⟩
  ·exact ((cP f.1).trans (cP hm.keeps)).trans h4
 ·refine wpAny_leaves_onW B.stack B.frame fl λh' h1 h2=>hQ _ ⟨?_,?_,a,t,tk,rfl,h1,ta.of_slots h2⟩
  ·refine rN x ?_;clear x;intro Ub Vb T1;obtain rfl:=T1
   exact ⟨_,_,rfl⟩
  ·exact ((cP f.1).trans u).trans h2
structure vR (prog:aH) (w:av) (c:Sc) (I:aW->Prop) (base:aW) (outer:List Env) (m:Str) (b:List eh):Prop where
 run: ∀s:aq,I s.heap->aC (aI prog w) c.A (iB b c.env) (λz z=>False) (z8 c base outer m s) s
theorem z8.ext (x:nB Vw s) (t:z8 c base outer m s e s'):z8 c base outer m Vw e s':=⟨x.trans t.1,t.2⟩
theorem CU {st:eh} {I I':aW->Prop} (h:mT prog w c.env c.A I [st] (λfl h=>fl= .next/\I' h)) (k:vR prog w c I' base outer m b):vR prog w c I base outer m (st::b):=.mk λs i=>by
 have h1:=h.run s i
 rw [ci] at h1 ⊢
 intro Γ p hΓ
 have h2:=h1 Γ p hΓ
 rw [di] at h2 ⊢
 refine cg _ Γ _ (λfl UO T3 q=> ?_) (λz z z e=>e.elim) _ _ h2
 cases fl with
 |next=>
  have q':nB s T3/\I' T3.heap:=by simpa [execs_nil] using q
  exact cg _ Γ _ (λz z z e=>e) (λz z z t=>t.ext q'.1) _ _ (k.run T3 q'.2 Γ UO hΓ)
 |brk=>exfalso;simpa using q
 |cont=>exfalso;simpa using q
 |ret v=>exfalso;simpa using q
theorem zT (d:Bool) (ht:Tr prog w (fs c σ Λ) t d)
  (hb:d=ai->vR prog w c (In c σ Λ) base outer m (b++rest)) (ho:d=false->vR prog w c (In c σ Λ) base outer m (o++rest)):
  vR prog w c (In c σ Λ) base outer m (.If t b o pos::rest):=.mk λs i Γ p hΓ=>by
 rw [ci,di,exec_If]
 simp only [di,ja]
 refine cg _ Γ _ (λe UO T3 ⟨k,q⟩=> ?_) (λz z z e=>e.elim) _ _ (ht.run s i Γ _ hΓ)
 subst q
 cases e with
 |true=>exact uF b UO T3 (cg _ Γ _ (λfl z Ua f=>f.elim) (λz z z e=>e.ext (nB.of k)) _ _ ((hb rfl).run T3 (i.mono (mG k)) Γ UO hΓ))
 |false=>exact uF o UO T3 (cg _ Γ _ (λfl z Ua f=>f.elim) (λz z z e=>e.ext (nB.of k)) _ _ ((ho rfl).run T3 (i.mono (mG k)) Γ UO hΓ))
theorem Gn (he:Ev prog w (fs c σ Λ) e p) (hb:vR prog w c (In c ((x,p)::σ) Λ) base outer m b)
  (hx:autoParam (sA c x) XJ) (hk:autoParam (c.env.scope.kind= .function) XZ) (hs:autoParam (cJ e (aa (.Name x px)) pos.line c.env=bG false) XZ):
  vR prog w c (In c σ Λ) base outer m (.Assign [.Name x px] e pos::b):=
 CU (mM he (sJ λh i=>⟨rfl,i⟩) hx hk hs) hb
theorem BI (hx:Ev prog w (fs c σ Λ) (.Name x np) (.raw (.type "ValueError"))) (he:Ev prog w (fs c σ Λ) e₀ (.str m)) (hh:c.A.handled=az)
  (hs:autoParam (aE [e₀] c.env=(false,bJ e₀ c.env)::aE [] c.env) XZ):vR prog w c (In c σ Λ) base outer m (.Raise (aa (.Call (.Name x np) [e₀] [] cpos)) az pos::b):=.mk λs i=>by
 rw [ci]
 refine ae (Raise_madeB F.excCall_ValueError F.excRaise_ValueError hh (ab (hx.run s i) (λv T0 uu=>eA uu λT2 T5=> ?_) λz z e=>e.elim) hs (by rfl))
 subst T5
 refine ⟨rfl,?_⟩
 have T9:=i.mono (mG T2)
 refine ab ((mz (pos:=cpos) he mI hs).run T0 T9) (λvs T3 uu=>eA uu λT4 Uh=> ?_) λz z e=>e.elim
 refine mR (qJ Uh) λv T1 rv=> ?_;obtain rfl:=T1
 refine eE (nt rv) λtk T1=> ?_;obtain rfl:=T1
 refine ⟨by show 1<=bn;decide,λh' e hm=> ?_⟩
 have k:=mH T2 T4
 refine oU k ?_;clear k;intro Uu Vn T1 k';obtain rfl:=T1
 exact ⟨⟨_,_,rfl⟩,.inl ⟨_,e,tk,rfl,wH.of (i.mono k'),hm⟩⟩
structure KJ (prog:aH) (w:av) (c:Sc) (σ:mX) (Λ:List (aF×List PV)) (base:aW) (outer:List Env) (m:Str) (e:Expr):Prop where
 run: ∀s:aq,In c σ Λ s.heap->aC (aI prog w) c.A (bJ e c.env) (λz z=>False) (z8 c base outer m s) s
def Qx (prog:aH) (w:av) (A:aX) (X:List aF) (I:aW->Prop) (base:aW) (outer:List Env) (f:ay) (ps:List PV) (ks:List (Str×PV)) (m:Str):Prop:=
 ∀(s:aq) (vs us:List ay),I s.heap->n7 X s.heap->mK X s.heap ps vs->mK X s.heap (ks.map (·.2)) us->j4 A base outer s.heap->aC (aI prog w) A (ft f vs ((ks.map (·.1)).zip us)) (λz z=>False) (uU base outer m s.heap s) s
theorem sK.below (b:sK c base outer) (f:wH c h):j4 c.A base (c.env::outer) h:=⟨b.stack,b.stay f,b.funs f⟩
theorem uU.thr (x:nB s T3) (f:wH c T3.heap) (t:uU base (c.env::outer) m T3.heap T3 e s'):z8 c base outer m s e s':=
 ⟨x.trans t.1,.inr ⟨_,f,t.2.1,t.2.2⟩⟩
theorem Lb {id:Str} (B:sK c base outer) (hf:Ev prog w (fs c σ Λ) (.Name id np) (.raw f)) (ha:tG prog w (fs c σ Λ) pos (e::es) ps)
  (hk: ∀s:aq,In c σ Λ s.heap->tf c.A prog w f s) (hc:Qx prog w c.A c.X (In c σ Λ) base (c.env::outer) f ps [] m)
  (he:autoParam (aE (e::es) c.env=(false,bJ e c.env)::aE es c.env) XZ):KJ prog w c σ Λ base outer m (.Call (.Name id np) (e::es) [] pos):=.mk λs i=>by
 refine cm (ab (hf.run s i) (λv T0 uu=>eA uu λT2 T5=> ?_) λz z e=>e.elim)
 subst T5
 refine nI (qp (ab (ha.run T0 (i.mono (mG T2))) (λvs T3 uu=>eA uu λT4 Uh=> ?_) λz z e=>e.elim) he)
 have T7:=i.mono (mG (mH T2 T4))
 exact ⟨hk _ T7,ab (hc T3 vs [] T7 T7.liveAll Uh mK.nil (B.below (wH.of T7))) (λz z f=>f.elim) λz z e=>e.thr (nB.of (mH T2 T4)) (wH.of T7)⟩
theorem Eo (he:KJ prog w c σ Λ base outer m e) (hs:autoParam (cJ e (aa (.Name x px)) pos.line c.env=bG false) XZ):
  vR prog w c (In c σ Λ) base outer m (.Assign [.Name x px] e pos::b):=.mk λs i=>by
 rw [ci]
 exact ae (cN (ab (he.run s i) (λz z f=>f.elim) λz z e=>e) hs)
theorem yX {ns:List Str} {K:aq->Prop}
  (d:xW s.heap a fd body) (UG:A.depth<dC) (lx:n7 X s.heap)
  (Ul:aC (aI prog w) A.in1 (ey fd ⟨vs,kw⟩) (λUr T0=>bB s T0/\K T0/\ ∃us,Ur=ns.zip us/\mK X T0.heap qs us) (λz z=>False) s)
  (F:Ar fd ns) (Bw:j4 A base outer s.heap)
  (h: ∀(T0:aq) L,mU s.heap T0.heap->K T0->n7 X T0.heap->sK (mV fd a A X [] T0.heap L) base outer->vR prog w (mV fd a A X [] T0.heap L) (In (mV fd a A X [] T0.heap L) (ql ns qs) []) base outer m body):
  aC (aI prog w) A (ft (.ref a) vs kw) (λz z=>False) (uU base outer m s.heap s) s:=by
 refine eo (wR (M:=[]) (X:=X) (K:=K) (ns:=ns) (qs:=qs) (Λ:=[]) d UG lx (λz h=>nomatch h) (λz h=>nomatch h) (ab Ul (λz z h=>h) λz z f=>f.elim) (λz h=>nomatch h) F λL T0 T3 T2 hK T4 z hL T7=> ?_)
 have Vj:In (mV fd a A X [] T0.heap L) (ql ns qs) [] T3.heap:=T7
 have B:sK (mV fd a A X [] T0.heap L) base outer:={
  stack:=fH Bw.stack
  stays:=λx o e=>mG T2 x o (Bw.stays x o e)
  frames:=Bw.frames.of_keeps λx o e z=>⟨o,mG T2 x o e,rfl⟩
  frame:=rfl
  fn:=F.kind
  fresh:=by
   show base.get? L=az
   cases hq:base.get? L with
   |none=>rfl
   |some o=>rw [mG T2 _ _ (Bw.stays _ _ hq)] at hL;cases hL}
 refine ab ((h T0 L (mG T2) hK (lx.keep (mG T2)) B).run T3 Vj) (λz z f=>f.elim) λe s' t=> ?_
 refine z8.leaves B t λVp f=> ?_
 exact ⟨((nB.of T2).trans (nB.of T4)).trans f.1,(cP (mG T2)).trans f.2.1,f.2.2⟩
end
section
variable {w:av} {base:aW} {outer:List Env}
noncomputable def yi:Str:=aS "maxlinelen must be at least 4"
noncomputable def w2:Str:=aS "Control characters not allowed in headers"
theorem F5 (hr:pt 2 A) (hI:oi w.params s.heap) (hO:sP w.params X) (lx:n7 X s.heap) (rv:mP X s.heap (.str (S T)) v) (ru:mP X s.heap (.int 3) u) (Bw:j4 A base outer s.heap):
  aC (aI mu w) A (ft (.ref 89) [v,u]) (λz z=>False) (uU base outer yi s.heap s) s:=by
 refine yX (K:=λz=>True) (ns:=["body","maxlinelen","eol"]) (qs:=[.str (S T),.int 3,.str (S [10])]) (hI.defAt (B5 _)) hr.lim lx ?_ (v6 (by kernel_rfl)) Bw (λT0 L k z lx1 B=> ?_)
 ·have hb:l8 s wx ⟨[v,u],[]⟩ ((["body","maxlinelen","eol"]:List Str).zip [v,u,.str (S [10]) 291]):=.of_defaults rfl (hI.frag 82 KD (by kernel_rfl)) rfl (by with_unfolding_all rfl) (by with_unfolding_all rfl)
  exact hb _ _ _ _ ⟨mO _,trivial,_,rfl,mK.cons rv (mK.cons ru (mK.cons oh mK.nil))⟩
 ·have G:Gd w 1 (mV wx 89 A X [] T0.heap L):=⟨hI.keep k,hO,hr.deeper _,rfl,rfl,rfl⟩
  refine zT (decide ((3:Int)<4)) (mY (p:=.int 3) (q:=.int 4) ?_ ?_ rF) (λz=> ?_) (λc=>absurd c (by decide))
  ·walk_at "ev"
  ·walk_at "ev"
  ·exact BI (rU G (v:=.type "ValueError") (by kernel_rfl) (by kernel_rfl)) (m6 (by rfl)) G.room.1
theorem y7:fu (.type "re.Match") "__bool__"=bG az:=by rw [cz,bA];kernel_rfl
theorem zW:fu (.type "re.Match") "__len__"=bG az:=by rw [cz,bA];kernel_rfl
theorem ES {Q:Bool->aq->Prop} (hT:s.TypeIs (.ref a) "re.Match") (h:Q ai s):aC (aI mu w) A (truthy (.ref a)) Q E s:=by
 first
  |refine ae (lO (name:=aS "__bool__") hT y7 ?_)
  |refine ae (aj (ae (lO (name:=aS "__bool__") hT y7 ?_)))
 first
  |refine ae (fh (name:=aS "__len__") hT zW ?_)
  |refine ae (aj (ae (fh (name:=aS "__len__") hT zW ?_)))
 first
  |exact aj h
  |exact ae (aj (aj h))
theorem OE {T:List Nat} (h: ∃c∈T,vc c=ai): ∃k,k<T.length/\(∀i,i<k->vc (T.getD i 0)=false)/\vc (T.getD k 0)=ai:=by
 induction T with
 |nil=>refine mR h λc hc z=> ?_;cases hc
 |cons d T ih=>
  cases hd:vc d with
  |true=>exact ⟨0,by simp,λi hi=>absurd hi (jM _),hd⟩
  |false=>
   refine mR h λc hc hv=> ?_
   rcases ao.mp hc with rfl|hc
   ·rw [hd] at hv;exact oJ hv
   ·refine tF (ih ⟨c,hc,hv⟩) λk h1 h2 h3=> ?_
    refine ⟨k+1,by simpa using h1,λi hi=> ?_,h3⟩
    cases i with
    |zero=>exact hd
    |succ i=>exact h2 i (by exact (my (.i (.b (.a xA xI) (.a xB xI)) (.b xA xB)) [_,_]) hi)
theorem I7 (hr:pt 2 A) (hI:oi w.params s.heap) (hO:sP w.params X) (lx:n7 X s.heap) (rx: ∃a,x= .ref a) (rv:mP X s.heap (.str (S T)) v) (ru:mK X s.heap [.bool false] us) (hT:T.length<=1000) (hV: ∃c∈T,vc c=ai) (Bw:j4 A base outer s.heap):
  aC (aI mu w) A (ft (.ref 194) [x,v] ((["name"]:List Str).zip us)) (λz z=>False) (uU base outer w2 s.heap s) s:=by
 refine eE rx ?_;clear rx;intro a T1;obtain rfl:=T1
 refine mR (qJ ru) λu T1 rb=> ?_;obtain rfl:=T1
 refine yX (K:=λz=>True) (ns:=["self","value","name"]) (qs:=[.raw (.ref a),.str (S T),.bool false]) (hI.defAt (zH _)) hr.lim lx ?_ (v6 (by kernel_rfl)) Bw (λT0 L k z lx1 B=> ?_)
 ·have hb:l8 s BR ⟨[.ref a,v],(["name"]:List Str).zip [u]⟩ ((["self","value","name"]:List Str).zip [.ref a,v,u]):=.of_eq (by kernel_rfl!)
  exact hb _ _ _ _ ⟨mO _,trivial,_,rfl,mK.cons o9 (mK.cons rv (mK.cons rb mK.nil))⟩
 ·have G:Gd w 1 (mV BR 194 A X [] T0.heap L):=⟨hI.keep k,hO,hr.deeper _,rfl,rfl,rfl⟩
  refine zT ai (mY (p:=.raw (.type "str")) (q:=.raw (.type "str")) (n9 G (ps:=[.str (S T)]) (by kernel_rfl) (by kernel_rfl) (mz ?_ mI) zr (.inr ⟨_,rfl⟩)) (rU G (v:=.type "str") (by kernel_rfl) (by kernel_rfl)) (CR rfl)) (λz=> ?_) (λe=>by exact ro e)
  ·walk_at "ev"
  refine Gn (p:=.raw (.ref 164)) (DV (c:=false) (ry (p:=.bool false) ?_ qu) (λe=>by exact oJ e) (λe=>ud G (by kernel_rfl))) ?_
  ·walk_at "ev"
  refine tF (OE hV) λkk VD XI hk3=> ?_
  have Wr:un (bk o8 T.toArray 0 0 T.toArray.size false) kk (kk+1):=by
   refine OZ (by simpa using VD) (λi hi=> ?_) ?_
   ·rw [pO];exact XI i hi
   ·rw [pO];exact hk3
  refine zT ai (.mk λs i=>jD ?_) (λz=> ?_) (λe=>by exact ro e)
  ·have ob:=(G.inBase _ i).frag 164 Cs (by kernel_rfl)
   have hreg: ∀p,Ev mu w (fs (mV BR 194 A X [] T0.heap L) [("regex",.raw (.ref 164)),("name",.bool false),("value",.str (S T)),("self",.raw (.ref a))] []) (.Name "regex" p) (.raw (.ref 164)):=λp=>by walk_at "ev"
   have harg: ∀p p',tG mu w (fs (mV BR 194 A X [] T0.heap L) [("regex",.raw (.ref 164)),("name",.bool false),("value",.str (S T)),("self",.raw (.ref a))] []) p [.Name "value" p'] [.str (S T)]:=λp p'=>mz (by walk_at "ev") mI
   refine dN (T:="re.Pattern") (by rfl) (by rfl) (by rfl) Pat.plainAttrs Pat.slot_search Pat.type_search (ab ((hreg _).run s i) (λov T3 uu=>eA uu λT2 T5=> ?_) λz z e=>e)
   subst T5
   have T9:=i.mono (mG T2)
   have ob:=(G.inBase _ T9).frag 164 Cs (by kernel_rfl)
   refine ⟨⟨_,ob,rfl⟩,λb e=>by cases e;exact ⟨_,ob,rfl⟩,nI (qp (ab ((harg _ _).run T3 T9) (λvs Ua uu=>eA uu λT4 Uh=> ?_) λz z e=>e) (by rfl))⟩
   have T7:=T9.mono (mG T4)
   refine mR (qJ Uh) λv' T1 rv'=> ?_;obtain rfl:=T1
   refine eE (nt rv') λtk T1=> ?_;obtain rfl:=T1
   refine ⟨rj,EB (y6 (G.inBase _ T7)).1 (by simp;exact (my (.i (.l xA xQ) (.l xA (.c 100000))) [_]) hT) (y6 (G.inBase _ T7)).2 Wr λUm cc o Uc e1 e2=> ?_⟩
   exact ES ⟨_,e1,e2⟩ ⟨mH T2 (mH T4 Uc),rfl⟩
  ·exact BI (rU G (v:=.type "ValueError") (by kernel_rfl) (by kernel_rfl)) (m6 (by rfl)) G.room.1
end
section
variable {w:av} {base:aW} {outer:List Env} {m:Str} {c:Sc} {σ:mX} {Λ:List (aF×List PV)}
theorem Ko (G:Gd w n c) (B:sK c base outer)
  (ho:tJ mu w (fs c σ Λ) o H) (hH: ∀h a,H h a-> ∃d D,oO h a d D) (hm: ∀h h' a,H h a->mU h h'->H h' a)
  (hf:iV (KB w.params) (.ref 293) name=aa (aa (.ref f))) (Wg:(KB w.params).lookup f=aa ⟨oc,od,.func fd,sl⟩) (hn:(name==("_headers":Str))=false) (VA:lY (KB w.params) (.ref f)=aa (.type "function"))
  (ha:tG mu w (fs c σ Λ) pos (e::es) ps) (hk:Fc mu w (fs c σ Λ) pos Ve ks) (hc: ∀a,Qx mu w c.A c.X (λh=>In c σ Λ h/\H h a) base (c.env::outer) (.ref f) (.raw (.ref a)::ps) ks m)
  (V1:autoParam (bJ (.Call (.Attribute o name apos) (e::es) Ve pos) c.env=(do
   let ov <-bJ o c.env
   iv apos.atName
   let (f,first) <-gU [ov] (hZ ov name pl)
   gI pos f first (fb pos (aE (e::es) c.env)) (cM pos (bR Ve c.env)))) XZ)
  (he:autoParam (aE (e::es) c.env=(false,bJ e c.env)::aE es c.env) XZ):
  KJ mu w c σ Λ base outer m (.Call (.Attribute o name apos) (e::es) Ve pos):=.mk λs i=>by
 refine jv (ab (ho.run s i) (λv T0 uu=>oV uu λT2 a ea Ub=> ?_) λz z e=>e.elim) V1
 subst ea
 have T9:=i.mono (mG T2)
 refine rN (hH _ _ Ub) λd D t=> ?_
 refine tF (vN t) λWU I e1 e2=> ?_
 refine lL (G.inBase _ T9).frag I (Bh _) (DK _) hf VA (by show (gm name WU).map _=_;rw [e2 _ hn];rfl) ?_
 refine nI (evalArgs_kw2 hk.1 (ab (ha.run T0 T9) (λvs T3 uu=>eA uu λT4 Uh=>ab (hk.2.2 T3 (T9.mono (mG T4))) (λus Ua uu=>eA uu λUc Uj=> ?_) λz z e=>e.elim) λz z e=>e.elim) he)
 have k13:=mH T4 Uc
 have Ui:=T9.mono (mG k13)
 refine ⟨rB ((G.inBase _ Ui).frag _ _ Wg) rfl,?_⟩
 show aC _ _ (ft (.ref f) ([.ref a]++vs) ((io (λx=>x.fst) (cM pos (bR Ve c.env))).zip us)) _ _ _
 rw [show io (λx=>x.fst) (cM pos (bR Ve c.env))=ks.map (·.1) from hk.2.1]
 exact ab (hc a Ua (.ref a::vs) us ⟨Ui,hm _ _ _ Ub (mG k13)⟩ Ui.liveAll (mK.cons o9 (Uh.keep (mG Uc))) Uj (B.below (wH.of Ui))) (λz z f=>f.elim) λz z f=>f.thr (nB.of (mH T2 k13)) (wH.of Ui)
theorem sK.addOwn (B:sK c base outer):sK (c.addOwn D) base outer:=⟨B.stack,B.stays,B.frames,B.frame,B.fn,B.fresh⟩
theorem Jm (r3:pt 3 A) (B0:oi w.params s.heap) (lx:n7 X s.heap) (hO:sP w.params X) (t:oO s.heap a d D)
  (ru:mP X s.heap (.str (S nm)) u) (rz:mP X s.heap (.str (S T)) z) (hT:T.length<=1000) (hV: ∃c∈T,vc c=ai) (Bw:j4 A base outer s.heap):
  aC (aI mu w) A (ft (.ref 290) [.ref a,u,z]) (λz z=>False) (uU base outer w2 s.heap s) s:=by
 refine yX (K:=λz=>True) (ns:=["self","_name","_value","_params"]) (qs:=[.raw (.ref a),.str (S nm),.str (S T),.raw (.ref s.heap.objs.size)]) (B0.defAt (DR _)) r3.lim lx ?_ (v6 (by kernel_rfl)) Bw (λT0 L k z lx1 B=> ?_)
 ·rw [Gz]
  have k:=mZ s {cls:=.type "dict",data:=.dict #[]} s.toks
  exact ae (wpAny_alloc (aj ⟨k,trivial,_,rfl,mK.cons o9 (mK.cons (ru.keep (mG k)) (mK.cons (rz.keep (mG k)) (mK.cons o9 mK.nil)))⟩))
 ·have G:Gd w 2 (mV rE 290 A X [] T0.heap L):=⟨B0.keep k,hO,r3.deeper _,rfl,rfl,rfl⟩
  refine CU (I':=λh=> ∃D,In ((mV rE 290 A X [] T0.heap L).addOwn D) (("parts",.raw (.ref D))::ql ["self","_name","_value","_params"] [.raw (.ref a),.str (S nm),.str (S T),.raw (.ref s.heap.objs.size)]) [(D,[])] h) (zb λP gP nP=>sJ λh i=>⟨rfl,P,i⟩) (.mk λT3 uu=>eE uu λP T7=> ?_)
  have GP:=G.addOwn P
  have BP:=B.addOwn (D:=P)
  have t':oO ((mV rE 290 A X [] T0.heap L).addOwn P).g a d D:=t.keep k
  refine vR.run (c:=(mV rE 290 A X [] T0.heap L).addOwn P) (I:=In ((mV rE 290 A X [] T0.heap L).addOwn P) (("parts",.raw (.ref P))::ql ["self","_name","_value","_params"] [.raw (.ref a),.str (S nm),.str (S T),.raw (.ref s.heap.objs.size)]) [(P,[])]) ?_ T3 T7
  refine zT ai (mY (p:=.str (S T)) (q:=.none) ?_ xe (vp EM)) (λz=> ?_) (λe=>by exact ro e)
  ·walk_at "ev"
  refine Eo (Ko (ps:=[.str (S T)]) (ks:=[("name",.bool false)]) GP BP (CK (by walk_at "ev") t') (λz z t=>t) (λz z z uu k=>rN uu λd D t=>⟨d,D,t.keep k⟩) (by kernel_rfl) (zH _).e (by kernel_rfl) (by kernel_rfl) (mz ?_ mI) (xw sF) ?_)
  ·walk_at "ev"
  ·intro a' Ua vs us Ui lx₃ Uj ru₃ Bw₃
   refine nh (sN Uj) λx v T1 rx rv=> ?_;obtain rfl:=T1
   subst rx
   exact I7 GP.room (GP.inBase _ Ui.1) (GP.offX Ui.1) lx₃ ⟨_,rfl⟩ rv ru₃ hT hV Bw₃
end
section
variable {w:av} {base:aW} {outer:List Env} {m:Str} {c:Sc} {σ:mX} {Λ:List (aF×List PV)}
theorem Ji {s:aq}
  (UG:A.depth<dC) (hlim:s.heap.NoLimit) (lx:n7 X s.heap) (ho:s.heap.get? f=aa (jc name qual params body scope clos pm c' Wd)) (hcd:s.heap.CodeRec (.ref c') qual)
  (Ul:ey (kla_fn name qual params body scope clos pm (.ref c') Wd) ⟨[],[]⟩=bG []) (Wl: ∀x∈scope.names,x.2≠ .cell)
  (hσ: ∀x p,σ.lookup x=aa p->scope.names.lookup x=aa .free/\(x==("__classdict__":Str))=false/\ ∃b v,clos.lookup x=aa b/\s.heap.IsCell b (aa v)/\mP X s.heap p v)
  (hcob: ∀x b,clos.lookup x=aa b-> ∃v,s.heap.IsCell b v) (Bw:j4 A base outer s.heap)
  (h: ∀L,sK ⟨envX qual scope L f (.ref c') clos,A.deeper (envX qual scope L f (.ref c') clos),s.heap,[L],X⟩ base outer->KJ mu w ⟨envX qual scope L f (.ref c') clos,A.deeper (envX qual scope L f (.ref c') clos),s.heap,[L],X⟩ σ [] base outer m body)
  (hco:autoParam (scope.isCoroutine=false) XZ) (Xx:autoParam (scope.isGenerator=false) XZ) (hk:autoParam (scope.kind= .function) XZ):
  aC (aI mu w) A (ft (.ref f) []) (λz z=>False) (uU base outer m s.heap s) s:=by
 refine eo (kla_callFunE UG ho rfl hco Xx rfl hcd ?_)
 rw [Ul]
 refine aj (wpAny_newFunctionEnv Wl (λz h=>nomatch h) (λUb hns XC=>⟨hlim.fresh _ XC,?_⟩) hk)
 show gw _ _ (.expr body (envX qual scope s.heap.objs.size f (.ref c') clos)) _ _
 have Vr:mU s.heap Ub:=λb o e=>XC.extBut b o (dj (aR e)) (aO _ e)
 have hL:s.heap.get? s.heap.objs.size=az:=nF _
 have B:sK ⟨envX qual scope s.heap.objs.size f (.ref c') clos,A.deeper (envX qual scope s.heap.objs.size f (.ref c') clos),s.heap,[s.heap.objs.size],X⟩ base outer:={
  stack:=fH Bw.stack
  stays:=Bw.stays
  frames:=Bw.frames
  frame:=rfl
  fn:=hk
  fresh:=by
   show base.get? s.heap.objs.size=az
   cases hq:base.get? s.heap.objs.size with
   |none=>rfl
   |some o=>have:=Bw.stays _ _ hq;rw [hL] at this;cases this}
 have i:In ⟨envX qual scope s.heap.objs.size f (.ref c') clos,A.deeper (envX qual scope s.heap.objs.size f (.ref c') clos),s.heap,[s.heap.objs.size],X⟩ σ [] Ub:={
  keep:=Vr
  fresh:=λa ha=>by rw [ak.mp ha];exact hL
  live:=λa ha=>by rw [ak.mp ha];refine wD hns λo z z e z=> ?_;exact ⟨o,e⟩
  liveX:=lx.keep Vr
  locOwn:=.head _
  loc:=⟨_,hns,λx p hx e=>by
   have:=(hσ x p e).1
   have hx:scope.names.lookup x=aa .local:=hx
   rw [this] at hx;cases hx⟩
  cel:=λx p z e=>by
   refine NZ (hσ x p e) λz z b v e1 e2 e3=> ?_
   refine ⟨b,v,e1,e2.keeps Vr,mP.keep Vr (e3.sub λd hd uu=>eE uu λo e=> ?_)⟩
   rcases ar.mp hd with q|q
   ·rw [ak.mp q,hL] at e;exact nE e
   ·exact q
  cob:=λx b e=>let ⟨v,q⟩:=hcob x b e;⟨v,q.keeps Vr⟩
  kinds:=λx p e=>.inr (.inr ⟨(hσ x p e).1,(hσ x p e).2.1⟩)
  lists:=λz h=>nomatch h}
 refine kla_codeExpr (ab ((h _ B).run _ i) (λz z f=>f.elim) λe s' t=> ?_)
 refine z8.leaves B t λVp fl=> ?_
 obtain ⟨⟨Uu,Vn,rfl⟩,u,r⟩:=fl
 exact ⟨⟨_,_,rfl⟩,u,r⟩
theorem Rs:jR (.type "ValueError") (.type "ValueError")=bG ai:=by rw [dZ];kernel_rfl
theorem R1:jR (.type "ValueError") (.type "BaseException")=bG ai:=by rw [dZ];kernel_rfl
theorem R4:jR (.type ((lR "ValueError").elim "type" λx=>x.metatype)) (.type "tuple")=bG false:=by
 have:((lR "ValueError").elim "type" λx=>x.metatype)="type":=by kernel_rfl
 rw [this,dZ];kernel_rfl
theorem Lm (x:jf base l e (.type "ValueError") a0 h):h.ExcAt e "ValueError" a0:=by
 refine ni x.first λoe vs h1 h2 h3 h4=> ?_
 exact ⟨oe,vs,h1,h2,h3,h4⟩
theorem FQ {s:aq} (hr:pt 1 A) (hB:oi w.params s.heap) (hB0:oi w.params base) (lx:n7 X s.heap) (Bw:j4 A base outer s.heap) (Wg: ∃o fd,s.heap.get? f=aa o/\o.data= .func fd)
  (V6: ∀(env:Env) (s':aq),mU s.heap s'.heap->j4 (A.deeper env) base (env::outer) s'.heap->aC (aI mu w) (A.deeper env) (ft (.ref f) []) (λz z=>False) (uU base (env::outer) m s'.heap s') s'):
  aC (aI mu w) A (ft (.ref 328) [.ref f]) (λv s'=>nB s s'/\base.StaysIn s'.heap/\s.heap.UpToSlots s'.heap/\ ∃tk,v= .str m tk) (λz z=>False) s:=by
 have hz:=aw
 refine eo (wR (M:=[]) (X:=X) (K:=λz=>True) (ns:=["attempt"]) (qs:=[.raw (.ref f)]) (Λ:=[]) (hB.defAt (R0 _)) hr.lim lx (λz h=>nomatch h) (λz h=>nomatch h) ?_ (λz h=>nomatch h) (v6 (by kernel_rfl)) λL T0 T3 T2 z T4 z hL T7=> ?_)
 ·have hb:ey qA ⟨[.ref f],[]⟩=bG ((["attempt"]:List Str).zip [.ref f]):=by kernel_rfl!
  rw [hb]
  exact aj ⟨mO _,trivial,_,rfl,mK.cons o9 mK.nil⟩
 have Vj:In (mV qA 328 A X [] T0.heap L) (ql ["attempt"] [.raw (.ref f)]) [] T3.heap:=T7
 clear T7
 have hbL:base.get? L=az:=by
  cases hq:base.get? L with
  |none=>rfl
  |some o=>rw [mG T2 _ _ (Bw.stays _ _ hq)] at hL;exact tD hL
 have hsL:s.heap.get? L=az:=by
  cases hq:s.heap.get? L with
  |none=>rfl
  |some o=>rw [mG T2 _ _ hq] at hL;exact tD hL
 have B:sK (mV qA 328 A X [] T0.heap L) base outer:={
  stack:=fH Bw.stack
  stays:=λx o e=>mG T2 x o (Bw.stays x o e)
  frames:=Bw.frames.of_keeps λx o e z=>⟨o,mG T2 x o e,rfl⟩
  frame:=rfl
  fn:=rfl
  fresh:=hbL}
 have hu:(A.deeper (bf qA L 328)).units+2<fw:=by have:=(hr.deeper (bf qA L 328)).2.2;exact (my (.i (.b (.a (.a xA (.m 10 xJ)) xP) xB) (.b (.a xA xM) xB)) [_,_]) this
 have G:Gd w 0 (mV qA 328 A X [] T0.heap L)->True:=λz=>trivial
 show aC (aI mu w) (A.deeper (bf qA L 328)) (iB (nW (nM 49)) (bf qA L 328)) _ _ T3
 refine ae (wpAny_Try_except ?_)
 have hat: ∀p,Ev mu w (fs (mV qA 328 A X [] T0.heap L) (ql ["attempt"] [.raw (.ref f)]) []) (.Name "attempt" p) (.raw (.ref f)):=λp=>by walk_at "ev"
 refine ae (fM (cm (ab ((hat _).run T3 Vj) (λv Ua uu=>eA uu λUc Uj=> ?_) λz z e=>e.elim)) (by rfl) (by rfl))
 subst Uj
 have Ui:=Vj.mono (mG Uc)
 have k03:=mH T2 (mH T4 Uc)
 refine oU Wg λo fd ho hd=> ?_
 refine nI (wp ⟨rB (mG k03 _ _ ho) hd,ab (V6 (bf qA L 328) Ua (mG k03) (B.below (wH.of Ui))) (λz z f=>f.elim) λe Um fl=> ?_⟩)
 refine MA fl ?_;clear fl;intro VB u₄ a t tk T1 fl ta;obtain rfl:=T1
 have us:s.heap.UpToSlots Um.heap:=(cP (mG k03)).trans u₄
 refine mR Ui.loc λm₃ n₃ z=> ?_
 refine wpAny_looks_onW B.stack B.frame fl λVg hd₅ Xu=> ?_
 refine wpAny_landsW hd₅ λh₆ fl6 Xd=> ?_
 have ta₆:=(ta.of_slots Xu).of_slots Xd
 have n₆:h₆.Ns L m₃:=((u₄.trans Xu).trans Xd).ns n₃
 have us₆:=(us.trans Xu).trans Xd
 have VS: ∀h,base.StaysIn h->(∃m,h.Ns L m)->In ⟨bf qA L 328,(A.deeper (bf qA L 328)).mark (aa (.ref a)),base,[L],[]⟩ [] [] h:=λh k uu=>eE uu λm' n=>{
  keep:=k
  fresh:=λb hb=>by rw [ak.mp hb];exact hbL
  live:=λb hb=>by rw [ak.mp hb];refine wD n λo z z e z=> ?_;exact ⟨o,e⟩
  liveX:=λz h=>nomatch h
  locOwn:=.head _
  loc:=⟨m',n,λx p hx e=>by exact nE e⟩
  cel:=λx p z e=>by exact nE e
  cob:=λx b e=>by exact nE e
  kinds:=λx p e=>by exact nE e
  lists:=λz h=>nomatch h}
 have Wo:=VS h₆ fl6.1 ⟨_,n₆⟩
 have bt: ∀{σ:mX} (p:Pos) (x:Str) (T:String),lV (KB w.params) bm x=aa az->ix x=aa (.type T)->x∈wj->(bf qA L 328).kindOf x=aa .globalImplicit->(x==("__debug__":Str))=false->
   Ev mu w (fs ⟨bf qA L 328,(A.deeper (bf qA L 328)).mark (aa (.ref a)),base,[L],[]⟩ σ []) (.Name x p) (.raw (.type T)):=
  λp x T e hb hm hx hd=>KI rfl hx rfl rfl (λh i=>(hB0.keep i.keep).bltIs e hm hb) hd
 refine wpAny_handleBy_builtin_as (X:="ValueError") (T:="ValueError") (b:=ai) R1 R4 Rs ?_
 refine ab ((bt (σ:=[]) _ "ValueError" "ValueError" (by kernel_rfl) (by kernel_rfl) (by decide+kernel) rfl (by decide+kernel)).run _ Wo) (λv Wy uu=>eA uu λUJ Xe=> ?_) λz z e=>e.elim
 subst Xe
 refine oU UJ ?_;clear UJ;intro h₇ t₇ T1 UJ;obtain rfl:=T1
 refine mR fl6.there λoe he WS=> ?_
 refine ⟨rfl,⟨oe,UJ _ _ he,WS⟩,?_⟩
 rw [if_pos rfl]
 have fl₇:jf base (bf qA L 328::outer) a (.type "ValueError") (.ref t) h₇:=by
  refine zU fl6 λf1 f2 f3 oe vs T oT ts e1 e2 e3 e4 e5 e6 e7 e8 e9=> ?_
  exact ⟨λb o e=>UJ _ _ (f1 b o e),f2,f3.of_keeps λb o e z=>⟨o,UJ _ _ e,rfl⟩,oe,vs,T,oT,ts,UJ _ _ e1,e2,e3,e4,e5,e6,UJ _ _ e7,e8,e9⟩
 refine lands_againW fl₇ λh₈ fl8 Xl=> ?_
 have ta8:=(ta₆.keeps UJ).of_slots Xl
 have W9:h₈.Ns L m₃:=Xl.ns (n₆.keeps UJ)
 have us₈:=(us₆.trans (cP UJ)).trans Xl
 have ea8:=Lm fl8
 have haL:a≠L:=λq=>by
  obtain ⟨o,vs,e1,_,e2,_⟩:=ea8
  obtain ⟨o',es,ep,e3,e4,_⟩:=W9
  rw [q,e3] at e1;obtain rfl:=am e1;rw [e4] at e2;cases e2
 have htL:t≠L:=λq=>by
  obtain ⟨o,n,e1,_,e2⟩:=ta8
  obtain ⟨o',es,ep,e3,e4,_⟩:=W9
  rw [q,e3] at e1;obtain rfl:=am e1;rw [e4] at e2;cases e2
 refine iO rfl W9 (λWf n₉ sb9=> ?_) (by rfl)
 have st9:base.StaysIn Wf:=λb o e=>by
  rw [sb9.2 b (λq=>by rw [q] at e;have:=e.symm.trans hbL;exact tD this)]
  exact fl8.1 b o e
 have us₉:s.heap.UpToSlots Wf:=λb o e nv=>by
  obtain ⟨sl,e'⟩:=us₈ b o e nv
  refine ⟨sl,?_⟩
  rw [sb9.2 b (λq=>by rw [q] at e;have:=e.symm.trans hsL;exact tD this)]
  exact e'
 have ea₉:Wf.ExcAt a "ValueError" (.ref t):=let ⟨o,vs,e1,r⟩:=ea8;⟨o,vs,(sb9.2 a haL).trans e1,r⟩
 have ta₉:Wf.TupAt t [.str m tk]:=let ⟨o,n,e1,r⟩:=ta8;⟨o,n,(sb9.2 t htL).trans e1,r⟩
 have i₉:=VS Wf st9 ⟨_,n₉⟩
 refine ae (jK (cm (ab ((bt (σ:=[]) _ "str" "str" (by kernel_rfl) (by kernel_rfl) (by decide+kernel) rfl (by decide+kernel)).run _ i₉) (λv s₁₀ uu=>eA uu λUC r10=> ?_) λz z e=>e.elim)))
 subst r10
 refine oU UC ?_;clear UC;intro h₁₀ t₁₀ T1 UC;obtain rfl:=T1
 have n10:=n₉.keeps UC
 refine nI (qp (cB (jA (wpAny_loadName_local rfl rfl n10 (v:=.ref a) (by rfl) (cF ?_)) (by decide+kernel)) (by rfl)) (by rfl))
 refine ⟨uh,?_⟩
 refine P.str_of_exc_one F.excStr_ValueError (by show (A.deeper (bf qA L 328)).units+2<fw;exact hu) (let ⟨o,vs,e1,r⟩:=ea₉;⟨o,vs,UC _ _ e1,r⟩) (ta₉.keeps UC) ?_
 refine aj ?_
 refine wpAny_nameGoes rfl n10 (by rfl) λVM m₁₁ n₁₁ sb11=> ?_
 refine aj ?_
 refine ⟨?_,?_,?_,tk,rfl⟩
 ·refine oU k03 ?_;clear k03;intro Ub Vb T1 _;obtain rfl:=T1
  refine rN VB ?_;clear VB;intro U9 t₄ T1;obtain rfl:=T1
  exact ⟨_,_,rfl⟩
 ·intro b o e
  show VM.get? b=aa o
  rw [sb11.2 b (λq=>by rw [q] at e;have:=e.symm.trans hbL;exact tD this)]
  exact UC _ _ (st9 b o e)
 ·intro b o e nv
  refine eE (us₉ b o e nv) λsl e'=> ?_
  refine ⟨sl,?_⟩
  show VM.get? b=_
  rw [sb11.2 b (λq=>by rw [q] at e;have:=e.symm.trans hsL;exact tD this)]
  exact UC _ _ e'
end
open Builtin.Str in
theorem KN (l:List Nat) (i:Nat):(S l).cps.getD i 0=l.getD i 0:=by simp [S,Array.getD,List.getD];split<;>simp_all
open Builtin.Str in
theorem Ka (l:List Nat) (i:Nat):(S l).cps[i]? =l[i]? :=by simp [S]
noncomputable def jn (Vc:List Nat):List (List Nat)->List Nat
 |[]=>[]
 |[x]=>x
 |x::y::r=>x++Vc++jn Vc (y::r)
theorem yl (Vc:List Nat): ∀ls:List (List Nat),(Txt.join (S Vc) (ls.map S)).cps.toList=jn Vc ls:=by
 intro ls
 show (j9 (S Vc) (ls.map S)).cps.toList=_
 rw [j8]
 induction ls with
 |nil=>rfl
 |cons x r ih=>
  cases r with
  |nil=>simp [jm,jn,S]
  |cons y r=>
   have:jm (S Vc) ((x::y::r).map S)=S x++S Vc++jm (S Vc) ((y::r).map S):=rfl
   rw [this,Str.cps_append,lh,ih,Str.cps_append]
   simp [S,jn]
theorem zz (Vc:List Nat): ∀ls:List (List Nat),jn Vc (ls++[[]])=ls.flatMap (· ++Vc)
 |[]=>rfl
 |[x]=>by simp [jn]
 |x::y::r=>by
  have:=zz Vc (y::r)
  rw [bx,bx,jn,<-bx,this]
  simp
def FL (l:List Nat):Prop:= ∀c∈l,cG c=false
def sW (b:List Nat):Prop:=b=[10]\/b=[13,10]\/b=[13]
noncomputable def xx (b:Nat):Nat->List (List Nat)->List (Nat×Nat×Nat)
 |_,[]=>[]
 |p,l::r=>(p,p+l.length,p+l.length+b)::xx b (p+l.length+b) r
open StrLaws in
theorem zE (s:Str): ∀(n a:Nat) (st:LsSt),(∀i,a<=i->i<a+n->i<st.2\/cG (s.cps.getD i 0)=false)->(iC (m:=Id) (fc a n) st (lsBody s)).run=st
 |0,a,st,_=>rfl
 |n+1,a,(u,v),h=>by
  rw [List.range'_succ,cD]
  have:(decide (v<=a)&&cG (s.cps.getD a 0))=false:=by
   rcases h a (aN _) (by exact my (.b xA (.a xA (.a xB xI))) [_,_]) with h|h
   ·have h':a<v:=h
    rw [decide_eq_false (by exact (my (.i (.b xB xA) (.n (.l xA xB))) [_,_]) h)];rfl
   ·rw [h,iq]
  unfold lsBody
  simp only [this,a9,if_false]
  exact zE s n (a+1) (u,v) λi h1 h2=>h i (by exact (my (.i (.l (.a xA xI) xB) (.l xA xB)) [_,_]) h1) (by exact (my (.i (.b xA (.a (.a xB xI) xC)) (.b xA (.a xB (.a xC xI)))) [_,_,_]) h2)
open StrLaws in
theorem Rb (s:Str) (a:Nat) (u:Array (Nat×Nat×Nat)) (v:Nat) (h:v<=a) (hb:cG (s.cps.getD a 0)=ai):(iC (m:=Id) (fc a 1) ((u,v):LsSt) (lsBody s)).run=(u.push (v,a,lsNext s a),lsNext s a):=by
 rw [show fc a 1=[a] from rfl,cD]
 unfold lsBody
 simp only [decide_eq_true h,hb,Bool.and_self,if_true]
 rfl
theorem tZ {α β:Type} (l r:List α) (st:β) (f:α->β->Id (ForInStep β)) (hf: ∀a b,∃c,f a b=bG (.yield c)):(iC (m:=Id) (l++r) st f).run=(iC (m:=Id) r (iC (m:=Id) l st f).run f).run:=by
 induction l generalizing st with
 |nil=>rfl
 |cons a l ih=>
  refine eE (hf a st) λc e=> ?_
  rw [bx,cD,cD,e]
  exact ih c
open StrLaws in
theorem Ax (s:Str) (a:Nat) (b:LsSt): ∃c,lsBody s a b=bG (.yield c):=by
 unfold lsBody;split<;>exact ⟨_,rfl⟩
theorem v7 (P R:List Nat) (i:Nat) (h:P.length<=i):(P++R).getD i 0=R.getD (i - P.length) 0:=by
 rw [aZ,aZ,jQ h]
theorem x8 {l:List Nat} (h:i<l.length):l.getD i 0∈l:=by
 rw [aZ,aA h];exact dn h
theorem zl (P R:List Nat) (i:Nat) (h:i<P.length):(P++R).getD i 0=P.getD i 0:=by
 rw [aZ,aZ,List.getElem?_append_left h]
open StrLaws in
theorem Nh {b:List Nat} (hb:sW b): ∀(ls:List (List Nat)) (P:List Nat) (u:Array (Nat×Nat×Nat)),(∀l∈ls,FL l)->
  (iC (m:=Id) (fc P.length (ls.flatMap (· ++b)).length) ((u,P.length):LsSt) (lsBody (S (P++ls.flatMap (· ++b))))).run=(u++(xx b.length P.length ls).toArray,P.length+(ls.flatMap (· ++b)).length)
 |[],P,u,_=>by simp [xx]
 |l::r,P,u,h=>by
  have VO:1<=b.length/\b.length<=2:=by rcases hb with rfl|rfl|rfl<;>decide
  have hl:=h l (.head _)
  have ih:=Nh hb r (P++l++b) (u.push (P.length,P.length+l.length,P.length+l.length+b.length)) λx hx=>h x (.tail _ hx)
  have eP:P++(l::r).flatMap (· ++b)=P++l++b++r.flatMap (· ++b):=by simp
  rw [eP]
  have eL:((l::r).flatMap (· ++b)).length=l.length+(1+((b.length - 1)+(r.flatMap (· ++b)).length)):=by simp;exact (my (.i (.l xI xA) (.e (.a xA xB) (.a xI (.a (.s xA xI) xB)))) [_,_]) VO.1
  rw [eL,<-dG,<-dG,<-dG,tZ _ _ _ _ (Ax _),tZ _ _ _ _ (Ax _),tZ _ _ _ _ (Ax _)]
  have eT:(P++l++b).length=P.length+l.length+b.length:=by simp;exact my (.e (.a xA (.a xB xC)) (.a (.a xA xB) xC)) [_,_,_]
  generalize hT:r.flatMap (· ++b)=T at*
  have c0: ∀i,(S (P++l++b++T)).cps.getD i 0=(P++l++b++T).getD i 0:=KN _
  have cl: ∀i,P.length<=i->i<P.length+l.length->(P++l++b++T).getD i 0∈l:=λi h1 h2=>by
   rw [aJ,aJ,v7 _ _ _ h1,zl _ _ _ (by exact (my (.i (.l xB xA) (.i (.b xA (.a xB xC)) (.b (.s xA xB) xC))) [_,_,_]) h1 h2)]
   exact x8 (by exact (my (.i (.l xB xA) (.i (.b xA (.a xB xC)) (.b (.s xA xB) xC))) [_,_,_]) h1 h2)
  have cb: ∀k,k<b.length->(P++l++b++T).getD (P.length+l.length+k) 0=b.getD k 0:=λk hk=>by
   rw [aJ,v7 _ _ _ (by simp),zl _ _ _ (by simp;omega)]
   congr 1;simp
  rw [zE _ l.length P.length (u,P.length) λi h1 h2=>.inr (by rw [c0];exact hl _ (cl i h1 h2))]
  have nx:lsNext (S (P++l++b++T)) (P.length+l.length)=P.length+l.length+b.length:=by
   unfold lsNext
   rw [c0,Ka,show (P++l++b++T).getD (P.length+l.length) 0=b.getD 0 0 from cb 0 (by exact (my (.i (.l xI xA) (.b xJ xA)) [_]) VO.1)]
   have g1:(P++l++b++T)[P.length+l.length+1]? =(b++T)[1]? :=by
    rw [aJ,jQ (by simp)]
    congr 1;simp
   rw [g1]
   rcases hb with rfl|rfl|rfl
   ·rfl
   ·rfl
   ·have:T[0]? ≠aa 10:=by
     rw [<-hT]
     cases r with
     |nil=>simp
     |cons y r=>
      cases y with
      |nil=>simp
      |cons c y=>
       have:=h (c::y) (.tail _ (.head _)) c (.head _)
       simp only [bh,bx,List.getElem?_cons_zero,ne_eq,ka]
       rintro rfl
       exact absurd this (by decide)
    have e:([13]++T)[1]? =T[0]? :=rfl
    rw [e]
    have:(T[0]? ==aa 10)=false:=by simpa using this
    rw [this];rfl
  rw [Rb _ _ _ _ (by exact my (.l xA (.a xA xB)) [_,_]) (by
   rw [c0,show (P++l++b++T).getD (P.length+l.length) 0=b.getD 0 0 from cb 0 (by exact (my (.i (.l xI xA) (.b xJ xA)) [_]) VO.1)]
   rcases hb with rfl|rfl|rfl<;>decide),nx]
  rw [zE _ (b.length - 1) (P.length+l.length+1) (u.push (P.length,P.length+l.length,P.length+l.length+b.length),P.length+l.length+b.length) λi h1 h2=>.inl (by exact (my (.i (.l xI xD) (.i (.b xA (.a (.a (.a xB xC) xI) (.s xD xI))) (.b xA (.a (.a xB xC) xD)))) [_,_,_,_]) VO.1 h2)]
  rw [eT] at ih
  rw [show P.length+l.length+1+(b.length - 1)=P.length+l.length+b.length by exact (my (.i (.l xI xC) (.e (.a (.a (.a xA xB) xI) (.s xC xI)) (.a (.a xA xB) xC))) [_,_,_]) VO.1,ih]
  simp only [xx]
  refine eU ?_ ?_
  ·simp
  ·exact (my (.i (.l xI xC) (.e (.a (.a (.a xA xB) xC) xD) (.a xA (.a xB (.a xI (.a (.s xC xI) xD)))))) [_,_,_,_]) VO.1
theorem CQ: ∀(ls:List (List Nat)) (P:List Nat),((xx b.length P.length ls).map λp=>strSub (S (P++ls.flatMap (· ++b))) p.1 p.2.1)=ls.map S
 |[],_=>rfl
 |l::r,P=>by
  have ih:=CQ (b:=b) r (P++l++b)
  have eP:P++(l::r).flatMap (· ++b)=P++l++b++r.flatMap (· ++b):=by simp
  have eT:(P++l++b).length=P.length+l.length+b.length:=by simp;exact my (.e (.a xA (.a xB xC)) (.a (.a xA xB) xC)) [_,_,_]
  rw [eP,xx,ba,ba]
  rw [eT] at ih
  rw [ih]
  congr 1
  apply iw
  apply dO.mp
  rw [dq]
  simp [S]
theorem Di (hb:sW b) {ls:List (List Nat)} (h: ∀l∈ls,FL l):Txt.lines (S (ls.flatMap (· ++b)))=ls.map S:=by
 have hs:jG (S (ls.flatMap (· ++b)))=xx b.length 0 ls:=by
  rw [StrLaws.ls_eq]
  have:=Nh hb ls [] #[] h
  simp only [bQ,dD] at this
  rw [mW,this]
  unfold jL
  rw [if_neg (by simp [mW])]
  simp
 have hc:=CQ (b:=b) ls []
 simp only [bQ,dD] at hc
 have hl:km (S (ls.flatMap (· ++b)))=ls.map S:=by
  rw [<-hc]
  unfold km lineCuts
  rw [hs,aB]
  apply aV
  intro ⟨i,j,k⟩ _
  rfl
 unfold Txt.lines
 split
 ·rename_i e
  have e:=gC e
  rw [<-hl]
  unfold km
  rw [e]
  simp only [ba,gV]
  congr 1
  apply iw
  apply dO.mp
  rw [dq,mW,gZ,eG]
  have:(S (ls.flatMap (· ++b))).cps.toList=ls.flatMap (· ++b):=by simp [S]
  rw [this]
  exact eJ.symm
 ·exact hl
open StrLaws in
theorem yL (s x:Str) (n m a:Nat) (b:Array Nat×Nat): ∃c,occBody s x n m a b=bG (.yield c):=by
 unfold occBody;split<;>exact ⟨_,rfl⟩
open StrLaws in
theorem xy (s x:Str) (hi lim:Nat): ∀(n a:Nat) (st:Array Nat×Nat),(∀i,a<=i->i<a+n->i<st.2\/hi<i+x.length\/eR s x i=false)->(iC (m:=Id) (fc a n) st (occBody s x hi lim)).run=st
 |0,a,st,_=>rfl
 |n+1,a,(u,v),h=>by
  rw [List.range'_succ,cD]
  have: ¬(((u.size<lim/\v<=a)/\a+x.length<=hi)/\eR s x a=ai):=by
   rintro ⟨⟨⟨_,h1⟩,h2⟩,h3⟩
   rcases h a (aN _) (by exact my (.b xA (.a xA (.a xB xI))) [_,_]) with h|h|h
   ·have h':a<v:=h;exact (my (.i (.l xA xB) (.n (.b xB xA))) [_,_]) h1 h
   ·exact (my (.i (.l (.a xA xB) xC) (.n (.b xC (.a xA xB)))) [_,_,_]) h2 h
   ·rw [h] at h3;exact oJ h3
  unfold occBody
  simp only [this,if_false]
  exact xy s x hi lim n (a+1) (u,v) λi h1 h2=>h i (by exact (my (.i (.l (.a xA xI) xB) (.l xA xB)) [_,_]) h1) (by exact (my (.i (.b xA (.a (.a xB xI) xC)) (.b xA (.a xB (.a xC xI)))) [_,_,_]) h2)
noncomputable def uP (b:Nat):Nat->List (List Nat)->List Nat
 |_,[]=>[]
 |_,[_]=>[]
 |p,l::y::r=>(p+l.length)::uP b (p+l.length+b) (y::r)
theorem xo (L b:List Nat) (i:Nat):eR (S L) (S b) i=((L.drop i).take b.length==b):=by
 rw [StrLaws.subAt_eq];simp [mW,S]
theorem EY (e:b=h::t) (hi:i<L.length) (hn:L.getD i 0≠h):eR (S L) (S b) i=false:=by
 rw [xo,e,gv hi,aU,eN]
 rw [aZ,aA hi] at hn
 have hn:L[i]≠h:=hn
 rw [beq_eq_false_iff_ne]
 intro q
 exact hn (List.cons.inj q).1
open StrLaws in
theorem J3 {b:List Nat} {c:Nat} {t:List Nat} (e:b=c::t) (lim:Nat): ∀(ls:List (List Nat)) (P:List Nat) (u:Array Nat) (y:List Nat),(∀l∈y::ls,c∉l)->u.size+ls.length<=lim->
  (iC (m:=Id) (fc P.length ((jn b (y::ls)).length+1)) ((u,P.length):Array Nat×Nat) (occBody (S (P++jn b (y::ls))) (S b) (P++jn b (y::ls)).length lim)).run.1=u++(uP b.length P.length (y::ls)).toArray
 |[],P,u,y,h,hz=>by
  have VO:1<=b.length:=by rw [e];simp
  rw [xy _ _ _ _ _ _ _ ?h]
  case h=>
   intro i h1 h2
   have h2':i<P.length+(y.length+1):=by simpa [jn] using h2
   rcases dI i (P.length+y.length) with q|q
   ·refine .inr (.inr (EY e (by simp [jn];omega) ?_))
    rw [v7 _ _ _ h1]
    intro q'
    apply h y (.head _)
    rw [<-q']
    exact x8 (by exact (my (.i (.l xB xA) (.i (.b xA (.a xB xC)) (.b (.s xA xB) xC))) [_,_,_]) h1 q)
   ·refine .inr (.inl ?_)
    rw [mW];simp [jn];exact (my (.i (.l xI xD) (.i (.l (.a xA xB) xC) (.b (.a xA xB) (.a xC xD)))) [_,_,_,_]) VO q
  simp [uP]
 |z::ls,P,u,y,h,hz=>by
  have VO:1<=b.length:=by rw [e];simp
  have ih:=J3 e lim ls (P++y++b) (u.push (P.length+y.length)) z (λl hl=>h l (.tail _ hl)) (by simp at hz ⊢;exact (my (.i (.l (.a xA (.a xB xI)) xC) (.l (.a (.a xA xI) xB) xC)) [_,_,_]) hz)
  have eP:P++jn b (y::z::ls)=P++y++b++jn b (z::ls):=by simp [jn]
  rw [eP]
  have eL:(jn b (y::z::ls)).length+1=y.length+(1+((b.length - 1)+((jn b (z::ls)).length+1))):=by simp [jn];exact (my (.i (.l xI xB) (.e (.a (.a xA (.a xB xC)) xI) (.a xA (.a xI (.a (.s xB xI) (.a xC xI)))))) [_,_,_]) VO
  rw [eL,<-dG,<-dG,<-dG,tZ _ _ _ _ (yL _ _ _ _),tZ _ _ _ _ (yL _ _ _ _),tZ _ _ _ _ (yL _ _ _ _)]
  have eT:(P++y++b).length=P.length+y.length+b.length:=by simp;exact my (.e (.a xA (.a xB xC)) (.a (.a xA xB) xC)) [_,_,_]
  generalize hT:jn b (z::ls)=T at*
  rw [xy _ _ _ _ y.length P.length (u,P.length) ?h1]
  ·have WC:(iC (m:=Id) (fc (P.length+y.length) 1) ((u,P.length):Array Nat×Nat) (occBody (S (P++y++b++T)) (S b) (P++y++b++T).length lim)).run=(u.push (P.length+y.length),P.length+y.length+b.length):=by
    rw [show fc (P.length+y.length) 1=[P.length+y.length] from rfl,cD]
    have c1:((u.size<lim/\P.length<=P.length+y.length)/\P.length+y.length+(S b).length<=(P++y++b++T).length)/\eR (S (P++y++b++T)) (S b) (P.length+y.length)=ai:=by
     refine ⟨⟨⟨by simp at hz;exact (my (.i (.l (.a xA (.a xC xI)) xB) (.b xA xB)) [_,_,_]) hz,by exact my (.l xA (.a xA xB)) [_,_]⟩,by rw [mW];simp;exact my (.l (.a (.a xA xB) xC) (.a xA (.a xB (.a xC xD)))) [_,_,_,_]⟩,?_⟩
     rw [xo,aJ,List.drop_append_of_le_length (by simp),fj (by simp),dD,List.take_append_of_le_length (aN _),eJ]
     exact beq_self_eq_true b
    unfold occBody
    simp only [c1,and_self,if_true]
    rw [mW]
    rfl
   rw [eT] at ih
   rw [WC,xy _ _ _ _ (b.length - 1) (P.length+y.length+1) (u.push (P.length+y.length),P.length+y.length+b.length) (λi h1 h2=>.inl (by exact (my (.i (.l xI xD) (.i (.b xA (.a (.a (.a xB xC) xI) (.s xD xI))) (.b xA (.a (.a xB xC) xD)))) [_,_,_,_]) VO h2)),show P.length+y.length+1+(b.length - 1)=P.length+y.length+b.length by exact (my (.i (.l xI xC) (.e (.a (.a (.a xA xB) xI) (.s xC xI)) (.a (.a xA xB) xC))) [_,_,_]) VO,ih]
   simp [uP]
  case h1=>
   intro i h1 h2
   refine .inr (.inr (EY e (by simp;exact (my (.i (.b xA (.a xB xC)) (.b xA (.a xB (.a xC (.a xD xE))))) [_,_,_,_,_]) h2) ?_))
   rw [aJ,aJ,v7 _ _ _ h1,zl _ _ _ (by exact (my (.i (.l xB xA) (.i (.b xA (.a xB xC)) (.b (.s xA xB) xC))) [_,_,_]) h1 h2)]
   intro q'
   apply h y (.head _)
   rw [<-q']
   exact x8 (by exact (my (.i (.l xB xA) (.i (.b xA (.a xB xC)) (.b (.s xA xB) xC))) [_,_,_]) h1 h2)
theorem Dj: ∀(ls:List (List Nat)) (P y:List Nat),iQ (S (P++jn b (y::ls))) b.length P.length (uP b.length P.length (y::ls))=(y::ls).map S
 |[],P,y=>by
  simp only [uP,iQ,ba,gV]
  congr 1
  apply iw
  apply dO.mp
  rw [dq,mW]
  simp [S,jn]
 |z::ls,P,y=>by
  have ih:=Dj (b:=b) ls (P++y++b) z
  have eP:P++jn b (y::z::ls)=P++y++b++jn b (z::ls):=by simp [jn]
  have eT:(P++y++b).length=P.length+y.length+b.length:=by simp;exact my (.e (.a xA (.a xB xC)) (.a (.a xA xB) xC)) [_,_,_]
  rw [eT] at ih
  rw [eP,uP,iQ,ih,ba]
  congr 1
  apply iw
  apply dO.mp
  rw [dq]
  simp [S]
theorem Kr (h:(uP b p (y::ls)).isEmpty=ai):ls=[]:=by
 cases ls with
 |nil=>rfl
 |cons z ls=>simp [uP] at h
theorem C4 (b:List Nat): ∀(ls:List (List Nat)) (y:List Nat),ls.length<=(jn b (y::ls)).length\/b=[]
 |[],y=>.inl (cx _)
 |z::ls,y=>by
  rcases C4 b ls z with h|h
  ·cases b with
   |nil=>exact .inr rfl
   |cons c t=>left;simp [jn] at h ⊢;exact (my (.i (.l xA xD) (.l (.a xA xI) (.a xB (.a (.a xC xD) xI)))) [_,_,_,_]) h
  ·exact .inr h
theorem Gb (x:Str):1<=dB x:=by unfold dB;split;decide;split<;>decide
theorem yT (e:b=c::t) (hk: ∀d∈b,d<256) (h: ∀l∈y::ls,c∉l):Txt.split (S (jn b (y::ls))) (S b)=(y::ls).map S:=by
 have k1:dB (S b)=1:=by
  unfold dB
  rw [if_pos]
  simpa [S] using hk
 have k2:decide (dB (S (jn b (y::ls)))<dB (S b))=false:=by
  rw [k1];exact decide_eq_false (by have:=Gb (S (jn b (y::ls)));exact (my (.i (.l xI xA) (.n (.b xA xI))) [_]) this)
 unfold Txt.split
 rw [k2,mW,mW,iM]
 have hn:ls.length<=(jn b (y::ls)).length:=(C4 b ls y).resolve_right (by rw [e];exact fE _ _)
 have ho: ∀x,S (jn b (y::ls))=x->gj x (S b) 0 (jn b (y::ls)).length ((jn b (y::ls)).length+1)=uP b.length 0 (y::ls):=by
  rintro x rfl
  rw [mi]
  have:=J3 e ((jn b (y::ls)).length+1) ls [] #[] y h (by simp;exact (my (.i (.l xA xB) (.l xA (.a xB xI))) [_,_]) hn)
  simp only [bQ,dD] at this
  rw [gZ,this];simp
 rw [ho _ rfl]
 split
 ·rename_i q
  have q:=of_decide_eq_true q
  cases ls with
  |nil=>rfl
  |cons z ls=>simp [jn] at q;exact ((my (.n (.b (.a xA (.a xB xC)) xB)) [_,_,_]) q).elim
 ·split
  ·rename_i q
   have:=Kr q
   subst this;rfl
  ·rw [StrLaws.partsBetween_eq]
   have:=Dj (b:=b) ls [] y
   simpa using this
theorem yr (h:c9 c=false):Txt.rstrip (S (l++[c]))=S (l++[c]):=by
 have hs:lJ c9 false ai (S (l++[c]))=ai:=by
  unfold lJ stripLo stripHi
  simp [S,h,fJ]
 unfold Txt.rstrip Txt.stripBy
 rw [hs];rfl
noncomputable def za:List Nat:=[46,65,66,67,68,97,98,99,100]
noncomputable def xb:List Nat:=[48,49,50,51,52,53,54,55,56,57,65,66,67,68,69,70]
def wC:List Nat:=61::58::32::(za++xb)
def toks (v:List Nat):List Nat:=v.flatMap pq
def vv (v:List Nat):Prop:= ∀c∈v,128<=c/\c<256
theorem xc: ∀c∈wC,cG c=false/\c≠10/\c≠13:=by decide+kernel
theorem FO: ∀c∈61::xb,c9 c=false/\c≠32/\c≠9:=by decide+kernel
theorem AJ: ∀c<256,pA (c/16)∈xb/\pA (c % 16)∈xb:=by decide+kernel
theorem ML: ∀c<256,hx (pA (c/16))=ai/\hx (pA (c % 16))=ai/\16*oo (pA (c/16))+oo (pA (c % 16))=c:=by decide+kernel
theorem Ke: ∀c∈xb,c≠61:=by decide+kernel
theorem zm: ∀c∈za,nU c=[c]/\c≠61/\c≠58/\c<256:=by decide+kernel
theorem LC: ∀c<256,128<=c->nU c=pq c:=by decide+kernel
theorem tc: ∀v:List Nat,(toks v).length=3*v.length
 |[]=>rfl
 |c::v=>by
  have:=tc v
  unfold toks at this ⊢
  rw [bh,af,this]
  simp [pq];exact my (.e (.a xO (.m 3 xA)) (.m 3 (.a xA xI))) [_]
theorem sY (c:Nat) (v:List Nat):toks (c::v)=61::pA (c/16)::pA (c % 16)::toks v:=rfl
theorem Ej: ∀(v:List Nat) (i:Nat),vv v->i<3*v.length->((toks v).getD i 0=61↔i % 3=0)
 |[],i,_,h=>by simp at h
 |c::v,i,ho,h=>by
  have hc:=AJ c (ho c (.head _)).2
  rw [sY]
  match i with
  |0=>simp
  |1=>simp only [iI,lG];exact ⟨λe=>absurd e (Ke _ hc.1),λe=>absurd e (by decide)⟩
  |2=>simp only [iI,lG];exact ⟨λe=>absurd e (Ke _ hc.2),λe=>absurd e (by decide)⟩
  |i+3=>
   simp only [iI]
   rw [Ej v i (λx hx=>ho x (.tail _ hx)) (by simp at h;exact (my (.i (.b (.a xA xO) (.m 3 (.a xB xI))) (.b xA (.m 3 xB))) [_,_]) h)]
   rw [Nat.add_mod_right]
theorem yP: ∀(j:Nat) (v:List Nat),(toks v).take (3*j)=toks (v.take j)/\(toks v).drop (3*j)=toks (v.drop j)
 |0,v=>by simp [toks]
 |j+1,[]=>by simp [toks]
 |j+1,c::v=>by
  have:=yP j v
  rw [sY,show 3*(j+1)=3*j+3 by exact my (.e (.m 3 (.a xA xI)) (.a (.m 3 xA) xO)) [_]]
  simp only [eN,List.drop_succ_cons,sY,this,and_self]
theorem Se (h1: ¬(w - 3 - p) % 3=0) (h2: ¬(w - 2 - p) % 3=0) (h:p+3<=w):(w - 1 - p) % 3=0:=by
 have e: ∃n,w=p+3+n:=⟨w - (p+3),by exact (my (.i (.l (.a (.v 1) (.c 3)) (.v 0)) (.e (.v 0) (.a (.a (.v 1) (.c 3)) (.s (.v 0) (.a (.v 1) (.c 3)))))) [_,_]) h⟩
 refine eE e λn e=> ?_
 rw [show w - 3 - p=n by exact (my (.i (.e (.v 0) (.a (.a (.v 1) (.c 3)) (.v 2))) (.e (.s (.s (.v 0) (.c 3)) (.v 1)) (.v 2))) [_,_,_]) e] at h1
 rw [show w - 2 - p=n+1 by exact (my (.i (.e (.v 0) (.a (.a (.v 1) (.c 3)) (.v 2))) (.e (.s (.s (.v 0) (.c 2)) (.v 1)) (.a (.v 2) (.c 1)))) [_,_,_]) e] at h2
 rw [show w - 1 - p=n+2 by exact (my (.i (.e (.v 0) (.a (.a (.v 1) (.c 3)) (.v 2))) (.e (.s (.s (.v 0) (.c 1)) (.v 1)) (.a (.v 2) (.c 2)))) [_,_,_]) e]
 exact (my (.i (.n (.e (.e (.a (.v 0) (.c 1)) 3) (.c 0))) (.i (.n (.e (.e (.v 0) 3) (.c 0))) (.e (.e (.a (.v 0) (.c 2)) 3) (.c 0)))) [_]) h2 h1
theorem QL (hw:12<=w) (hp:Uy.length<=9) (ho:vv v) (h:w+1<=(Uy++toks v).length): ∃j,j<v.length/\re w (Uy++toks v)=Uy.length+3*j:=by
 have hl:=tc v
 rw [af,hl] at h
 have g: ∀i,Uy.length<=i->i<w+1->((Uy++toks v).getD i 0=61↔(i - Uy.length) % 3=0):=λi h1 h2=>by
  rw [v7 _ _ _ h1,Ej v _ ho (by exact (my (.i (.l (.a xD xI) (.a xB (.m 3 xC))) (.i (.l xB xA) (.i (.b xA (.a xD xI)) (.b (.s xA xB) (.m 3 xC))))) [_,_,_,_]) h h1 h2)]
 unfold re
 have g1:=g (w - 3) (by exact (my (.i (.l (.c 12) xB) (.i (.l xA (.c 9)) (.l xA (.s xB xO)))) [_,_]) hw hp) (by exact my (.b (.s xA xO) (.a xA xI)) [_])
 have g2:=g (w - 2) (by exact (my (.i (.l (.c 12) xB) (.i (.l xA (.c 9)) (.l xA (.s xB xM)))) [_,_]) hw hp) (by exact my (.b (.s xA xM) (.a xA xI)) [_])
 split
 ·rename_i e
  have:=g1.mp e
  exact ⟨(w - 3 - Uy.length)/3,by exact (my (.i (.l (.c 12) xA) (.i (.l xB (.c 9)) (.i (.l (.a xA xI) (.a xB (.m 3 xC))) (.b (.d (.s (.s xA xO) xB) 3) xC)))) [_,_,_]) hw hp h,by exact (my (.i (.l (.c 12) xA) (.i (.l xB (.c 9)) (.i (.e (.e (.s (.s xA xO) xB) 3) xJ) (.e (.s xA xO) (.a xB (.m 3 (.d (.s (.s xA xO) xB) 3))))))) [_,_]) hw hp this⟩
 ·rename_i e
  have e1: ¬(w - 3 - Uy.length) % 3=0:=λq=>e (g1.mpr q)
  split
  ·rename_i e
   have:=g2.mp e
   exact ⟨(w - 2 - Uy.length)/3,by exact (my (.i (.l (.c 12) xA) (.i (.l xB (.c 9)) (.i (.l (.a xA xI) (.a xB (.m 3 xC))) (.b (.d (.s (.s xA xM) xB) 3) xC)))) [_,_,_]) hw hp h,by exact (my (.i (.l (.c 12) xA) (.i (.l xB (.c 9)) (.i (.e (.e (.s (.s xA xM) xB) 3) xJ) (.e (.s xA xM) (.a xB (.m 3 (.d (.s (.s xA xM) xB) 3))))))) [_,_]) hw hp this⟩
  ·rename_i e
   have e2: ¬(w - 2 - Uy.length) % 3=0:=λq=>e (g2.mpr q)
   exact ⟨(w - 1 - Uy.length)/3,by exact (my (.i (.l (.c 12) xA) (.i (.l xB (.c 9)) (.i (.l (.a xA xI) (.a xB (.m 3 xC))) (.b (.d (.s (.s xA xI) xB) 3) xC)))) [_,_,_]) hw hp h,by have e3:=Se e1 e2 (by exact (my (.i (.l (.c 12) (.v 1)) (.i (.l (.v 0) (.c 9)) (.l (.a (.v 0) (.c 3)) (.v 1)))) [_,_]) hw hp);exact (my (.i (.l (.c 12) (.v 0)) (.i (.l (.v 1) (.c 9)) (.i (.e (.e (.s (.s (.v 0) (.c 1)) (.v 1)) 3) (.c 0)) (.e (.s (.v 0) (.c 1)) (.a (.v 1) (.m 3 (.d (.s (.s (.v 0) (.c 1)) (.v 1)) 3))))))) [_,_]) hw hp e3⟩
theorem wE (e t:List Nat): ∀v:List Nat,vv v->nH e (toks v++t)=v++nH e t
 |[],_=>rfl
 |c::v,h=>by
  have hc:=ML c (h c (.head _)).2
  rw [sY,bx,bx,bx,Ea hc.1 hc.2.1,hc.2.2,wE e t v λx hx=>h x (.tail _ hx)]
  rfl
theorem ya (e t:List Nat): ∀p:List Nat,(∀c∈p,c≠61)->nH e (p++t)=p++nH e t
 |[],_=>rfl
 |c::p,h=>by
  rw [bx,xu (h c (.head _)),ya e t p λx hx=>h x (.tail _ hx)]
  rfl
theorem xm (h:vv v): ∀c∈toks v,c∈61::xb:=by
 intro c hc
 refine mR (cT.mp hc) λx h1 h2=> ?_
 have:=AJ x (h x h1).2
 simp only [pq,ao,fD,or_false] at h2
 rcases h2 with rfl|rfl|rfl
 ·exact .head _
 ·exact .tail _ this.1
 ·exact .tail _ this.2
theorem C0 (h:vv v) (hn:v≠[]): ∃q c,toks v=q++[c]/\c∈61::xb:=by
 have Uk:toks v≠[]:=by
  cases v with
  |nil=>exact absurd rfl hn
  |cons c v=>rw [sY];exact fE _ _
 exact ⟨(toks v).dropLast,(toks v).getLast Uk,(jI Uk).symm,xm h _ (List.getLast_mem Uk)⟩
structure Sm (w:Nat) (r:List Nat) (ps:List (List Nat)) (out:List Nat):Prop where
 dec: ∀e,ps.flatMap (nH e)=out++e
 len: ∀p∈ps,p.length<=w
 last: ∀p∈ps,∃q c,p=q++[c]/\c∈61::xb
 chars: ∀p∈ps,∀c∈p,c∈wC
 head: ∃p qs,ps=p::qs/\p.head? =r.head?/\ ∀q∈qs,q.head? =aa 61
theorem EZ (hw:12<=w): ∀(f:Nat) (Uy v:List Nat),Uy.length<=9->(∀c∈Uy,c≠61/\c∈wC)->vv v->v≠[]->(Uy++toks v).length<=f->Sm w (Uy++toks v) (rM w f (Uy++toks v)) (Uy++v)
 |0,Uy,v,_,_,_,hn,hf=>by
  have:=tc v
  have:0<v.length:=dP.mpr hn
  rw [af] at hf
  exact ((my (.i (.l xA (.c 9)) (.i (.l (.a xA xB) xJ) (.i (.e xB (.m 3 xC)) (.n (.b xJ xC))))) [_,_,_]) (by assumption) hf (by assumption) this).elim
 |f+1,Uy,v,hp,hc,ho,hn,hf=>by
  have hl:=tc v
  have gT: ∀u:List Nat,vv u-> ∀c∈Uy++toks u,c∈wC:=λu hu c h=>by
   rcases ar.mp h with h|h
   ·exact (hc c h).2
   ·have:=xm hu c h
    rcases ao.mp this with rfl|h
    ·exact .head _
    ·exact .tail _ (.tail _ (.tail _ (aM _ h)))
  rw [rM]
  split
  ·rename_i VQ
   refine mR (QL hw hp ho VQ) λj hj hk=> ?_
   have ck:=Co w (Uy++toks v) (by exact (my (.i (.l (.c 12) xA) (.l xK xA)) [_]) hw)
   have e1:(Uy++toks v).take (re w (Uy++toks v))=Uy++toks (v.take j):=by
    rw [hk,List.take_append,bF (by exact my (.l xA (.a xA (.m 3 xB))) [_,_]),show Uy.length+3*j - Uy.length=3*j by exact my (.e (.s (.a xA (.m 3 xB)) xA) (.m 3 xB)) [_,_],(yP j v).1]
   have e2:(Uy++toks v).drop (re w (Uy++toks v))=toks (v.drop j):=by
    rw [hk,List.drop_append,fj (by exact my (.l xA (.a xA (.m 3 xB))) [_,_]),show Uy.length+3*j - Uy.length=3*j by exact my (.e (.s (.a xA (.m 3 xB)) xA) (.m 3 xB)) [_,_],(yP j v).2,dD]
   have o1:vv (v.take j):=λc h=>ho c (List.mem_of_mem_take h)
   have o2:vv (v.drop j):=λc h=>ho c (List.mem_of_mem_drop h)
   have n2:v.drop j≠[]:=λq=>by
    have:=congrArg bj q
    rw [bH,bQ] at this;exact (my (.i (.b xA xB) (.n (.e (.s xB xA) xJ))) [_,_]) hj this
   have ih:=EZ hw f [] (v.drop j) (by simp) (λc h=>nomatch h) o2 n2 (by
    have h3:((Uy++toks v).drop (re w (Uy++toks v))).length<=f:=by exact bH▸((my (.i (.l xA (.a xC xI)) (.i (.l xI xB) (.l (.s xA xB) xC))) [_,_,_]) hf ck.1)
    rw [e2] at h3;exact h3)
   rw [dD] at ih
   rw [e1,e2]
   have hl1:(Uy++toks (v.take j)).length+1<=w:=by
    have:=congrArg bj e1
    rw [dm] at this;exact (my (.i (.l xI xC) (.i (.l xC (.s xB xI)) (.i (.e (.n xC xD) xA) (.l (.a xA xI) xB)))) [_,_,_,_]) ck.1 ck.2 this
   constructor
   ·intro e
    rw [bh,ih.dec,aJ,ya _ _ _ λc h=>(hc c h).1,wE _ _ _ o1,C5]
    simp only [dD,bK,aJ]
    rw [<-aJ (v.take j),kR]
   ·intro p h
    rcases ao.mp h with rfl|h
    ·exact af▸hl1
    ·exact ih.len p h
   ·intro p h
    rcases ao.mp h with rfl|h
    ·exact ⟨_,61,rfl,.head _⟩
    ·exact ih.last p h
   ·intro p h
    rcases ao.mp h with rfl|h
    ·intro c hcm
     rcases ar.mp hcm with h|h
     ·exact gT _ o1 c h
     ·exact (ak.mp h)▸(.head _)
    ·exact ih.chars p h
   ·refine nh ih.head λp qs h1 h2 h3=> ?_
    refine ⟨_,_,rfl,?_,?_⟩
    ·cases Uy with
     |cons c Uy=>rfl
     |nil=>
      have hj0:0<j:=by
       rw [bQ] at hk;exact (my (.i (.e xB (.a xJ (.m 3 xA))) (.i (.l xI xB) (.b xJ xA))) [_,_]) hk ck.1
      cases v with
      |nil=>exact absurd rfl hn
      |cons c v=>
       obtain ⟨k,rfl⟩: ∃k,j=k+1:=⟨j - 1,by exact (my (.i (.b xJ xA) (.e xA (.a (.s xA xI) xI))) [_]) hj0⟩
       simp [sY]
    ·intro q hq
     rw [h1] at hq
     rcases ao.mp hq with rfl|hq
     ·rw [h2]
      cases hd:v.drop j with
      |nil=>exact absurd hd n2
      |cons c u=>rfl
     ·exact h3 q hq
  ·rename_i hs
   constructor
   ·intro e
    have:=wE e [] v ho
    rw [bK] at this
    rw [bh,jw,bK,ya _ _ _ λc h=>(hc c h).1,this]
    simp [nH]
   ·intro p h
    exact (ak.mp h)▸((my (.i (.n (.l (.a xB xI) xA)) (.l xA xB)) [_,_]) hs)
   ·intro p h
    rw [ak.mp h]
    refine oU (C0 ho hn) λq c h1 h2=> ?_
    exact ⟨Uy++q,c,by rw [h1,aJ],h2⟩
   ·intro p h
    exact (ak.mp h)▸(gT _ ho)
   ·exact ⟨_,[],rfl,rfl,λq h=>nomatch h⟩
noncomputable def dd (p:List Nat):List Nat:=if p.head? =aa 46 then 46::p else p
structure oW (q:List Nat×List Nat):Prop where
 n1:q.1.length<=7
 n2:q.1≠[]
 n3: ∀c∈q.1,c∈za
 v1:q.2.length<=4
 v2:q.2≠[]
 v3:vv q.2
def vZ (q:List Nat×List Nat):List Nat:=(q.1++[58,32])++toks q.2
def rm (q:List Nat×List Nat):List Nat:=dd q.1++58::32::q.2
def JM (w:Nat) (q:List Nat×List Nat):List (List Nat):=rM w (vZ q).length (vZ q)
theorem KA (hw:12<=w) (h:oW q):Sm w (vZ q) (JM w q) (q.1++[58,32]++q.2):=by
 refine EZ hw _ _ _ ?_ ?_ h.v3 h.v2 (aN _)
 ·have:=h.n1;simp;omega
 ·intro c hc
  rcases ar.mp hc with hc|hc
  ·exact ⟨(zm c (h.n3 c hc)).2.1,.tail _ (.tail _ (.tail _ (ax _ (h.n3 c hc))))⟩
  ·exact (by decide+kernel: ∀c∈[58,32],c≠61/\c∈wC) c hc
theorem RM (hw:12<=w) (h:oW q) (e:List Nat):((JM w q).map dd).flatMap (nH e)=rm q++e:=by
 have hp:=KA hw h
 refine nh hp.head λp qs h1 h2 h3=> ?_
 have hd:=hp.dec e
 rw [h1] at hd ⊢
 have hq:qs.map dd=qs:=by
  conv=>rhs;rw [<-kW qs]
  apply aV
  intro x hx
  unfold dd
  rw [h3 x hx];rfl
 rw [ba,hq]
 have hh:p.head? =q.1.head?:=by
  rw [h2];unfold vZ
  cases hq1:q.1 with
  |nil=>exact absurd hq1 h.n2
  |cons c r=>rfl
 unfold rm dd
 rw [hh]
 rw [bh] at hd ⊢
 split
 ·rw [xu (by decide),bx,hd]
  simp
 ·rw [hd];simp
theorem yj (Vc:List Nat) (ls:List (List Nat)):jn Vc (ls++[[],[]])=ls.flatMap (· ++Vc)++Vc:=by
 have:=zz Vc (ls++[[]])
 rw [aJ] at this
 exact this.trans (by simp)
theorem vH (l:HP):oy l=(l.map (λq:List Nat×List Nat=>q.1++58::32::q.2)++[[]]).flatMap (· ++[13,10]):=by
 unfold oy
 rw [yl]
 unfold yx
 rw [yj];simp
theorem JT {n:List Nat} (h: ∀c∈n,c∈za):n.flatMap nU=n:=by
 induction n with
 |nil=>rfl
 |cons c n ih=>rw [bh,(zm c (h c (.head _))).1,ih λx hx=>h x (.tail _ hx)];rfl
theorem Kn (h:vv v):v.flatMap nU=toks v:=by
 induction v with
 |nil=>rfl
 |cons c v ih=>
  have hc:=h c (.head _)
  rw [bh,LC c hc.2 hc.1,ih λx hx=>h x (.tail _ hx)];rfl
theorem pM {α:Type} (f:α->List Nat) (b c:List α):(b++c).flatMap f=b.flatMap f++c.flatMap f:=by simp
theorem Kb (h:oW q):(q.1++58::32::q.2).flatMap nU=vZ q:=by
 rw [pM,JT h.n3]
 show q.1++(nU 58++(nU 32++q.2.flatMap nU))=_
 rw [Kn h.v3,show nU 58=[58] by decide+kernel,show nU 32=[32] by decide+kernel]
 simp [vZ]
theorem yU (h: ∀q∈l,oW q):(oy l).flatMap nU=(l.map vZ++[[]]).flatMap (· ++[13,10]):=by
 have e0:([13,10]:List Nat).flatMap nU=[13,10]:=by decide+kernel
 rw [vH]
 induction l with
 |nil=>exact e0
 |cons q l ih=>
  have ih:=ih λx hx=>h x (.tail _ hx)
  rw [ba,bx,bh,pM,ih,pM,Kb (h q (.head _)),e0]
  rfl
theorem Pq (h:oW q): ∀c∈vZ q,c∈wC:=by
 intro c hc
 rcases ar.mp hc with hc|hc
 ·rcases ar.mp hc with hc|hc
  ·exact .tail _ (.tail _ (.tail _ (ax _ (h.n3 c hc))))
  ·exact (by decide+kernel: ∀c∈[58,32],c∈wC) c hc
 ·have:=xm h.v3 c hc
  rcases ao.mp this with rfl|h
  ·exact .head _
  ·exact .tail _ (.tail _ (.tail _ (aM _ h)))
theorem BX (h: ∀q∈l,oW q):Txt.lines (S ((oy l).flatMap nU))=(l.map vZ++[[]]).map S:=by
 rw [yU h]
 refine Di (.inr (.inl rfl)) λx hx c hc=> ?_
 rcases ar.mp hx with hx|hx
 ·obtain ⟨q,h1,rfl⟩:=aK.mp hx
  exact (xc c (Pq (h q h1) c hc)).1
 ·rw [ak.mp hx] at hc;cases hc
theorem Jo (h: ∀q∈l,oW q):Qt ((oy l).flatMap nU):=by
 intro x hx
 rw [BX h] at hx
 refine mR (aK.mp hx) λy hy T1=> ?_;obtain rfl:=T1
 have e:(S y).cps.toList=y:=by simp [S]
 rw [e]
 rcases ar.mp hy with hy|hy
 ·refine mR (aK.mp hy) λq h1 T1=> ?_;obtain rfl:=T1
  refine oU (C0 (h q h1).v3 (h q h1).v2) λa c h2 h3=> ?_
  have e2:(vZ q).getLastD 0=c:=by unfold vZ;rw [h2,<-aJ,fU]
  rw [e2]
  have:=FO c h3
  simp [this.2.1,this.2.2]
 ·rw [ak.mp hy];rfl
def pI (w:Nat) (l:HP):List (List Nat):=l.flatMap (JM w)++[[]]
theorem Da (h: ∀q∈l,oW q) (w:Nat):pQ w ((oy l).flatMap nU)=pI w l:=by
 unfold pQ
 rw [BX h]
 have e0:rM w 0 []=[[]]:=rfl
 rw [bi,bV]
 have e1:((l.map vZ).map S).flatMap (λx=>rM w x.length x.cps.toList)=l.flatMap (JM w):=by
  rw [aB,List.flatMap_map]
  congr 1
 rw [e1]
 rfl
theorem J8 (h: ∀q∈l,oW q):((oy l).flatMap nU).getLastD 0=10:=by
 rw [yU h,pM];simp
theorem Au (h: ∀q∈l,oW q) (w:Nat) (Ud:List Nat):qR w ((oy l).flatMap nU) Ud=(pI w l).flatMap (· ++Ud):=by
 unfold qR wo
 rw [yl,J8 h,Da h,if_pos (by decide)]
 exact zz _ _
theorem vL (hw:12<=w) (h: ∀q∈l,oW q): ∀p∈pI w l,(∀c∈p,c∈wC)/\p.length<=w/\(p=[]\/ ∃(q:List Nat) (c:Nat),p=q++[c]/\c∈61::xb):=by
 intro p hp
 rcases ar.mp hp with hp|hp
 ·refine mR (cT.mp hp) λq h1 h2=> ?_
  have:=KA hw (h q h1)
  exact ⟨this.chars p h2,this.len p h2,.inr (this.last p h2)⟩
 ·rw [ak.mp hp];exact ⟨(λc h=>nomatch h),cx _,.inl rfl⟩
theorem tX (hb:sW b): ∃c t,b=c::t/\(c=10\/c=13)/\(∀d∈b,d<256)/\b.length<=2:=by
 rcases hb with rfl|rfl|rfl
 ·exact ⟨10,[],rfl,.inl rfl,by decide,by decide⟩
 ·exact ⟨13,[10],rfl,.inr rfl,by decide,by decide⟩
 ·exact ⟨13,[],rfl,.inr rfl,by decide,by decide⟩
theorem I9 (hw:12<=w) (h: ∀q∈l,oW q) (he:sW Ud):Txt.split (S (qR w ((oy l).flatMap nU) Ud)) (S Ud)=(pI w l++[[]]).map S:=by
 refine ni (tX he) λc t e hc hd z=> ?_
 rw [Au h,<-zz]
 cases hm:pI w l++[[]] with
 |nil=>simp at hm
 |cons y ls=>
  refine yT e hd λx hx=> ?_
  rw [<-hm] at hx
  rcases ar.mp hx with hx|hx
  ·intro q
   have:=xc c ((vL hw h x hx).1 c q)
   rcases hc with rfl|rfl
   ·exact this.2.1 rfl
   ·exact this.2.2 rfl
  ·rw [ak.mp hx];exact λq=>nomatch q
theorem Eh (he:sW Ud): ∀ps:List (List Nat),(∀p∈ps,∀c∈p,c∈wC)->pe (ps.flatMap (· ++Ud))=ps.flatMap (· ++[13,10])
 |[],_=>rfl
 |p::ps,h=>by
  have ih:=Eh he ps λx hx=>h x (.tail _ hx)
  have hi: ∀c∈wC,wy c=false:=by decide+kernel
  rw [bh,bh,aJ,xr _ _ λc hc=>hi c (h p (.head _) c hc),aJ,<-ih]
  congr 1
  rcases he with rfl|rfl|rfl
  ·exact Hn _
  ·exact De _
  ·refine Hr ?_
   cases ps with
   |nil=>simp
   |cons q ps=>
    cases q with
    |nil=>simp
    |cons c q=>
     have:=xc c (h (c::q) (.tail _ (.head _)) c (.head _))
     intro q'
     exact this.2.1 (am q')
theorem Ci (r:List Nat): ∀p:List Nat,(∀c∈p,c≠10)->dots false (p++13::10::r)=p++13::10::dots ai r
 |[],_=>rfl
 |c::p,h=>by
  have hc:(c==10)=false:=by rw [beq_eq_false_iff_ne];exact h c (.head _)
  rw [bx,dots,if_neg (by simp),hc,Ci r p λx hx=>h x (.tail _ hx)]
  rfl
theorem Mt (r p:List Nat) (h: ∀c∈p,c≠10):dots ai (p++13::10::r)=dd p++13::10::dots ai r:=by
 cases p with
 |nil=>rfl
 |cons c p=>
  have hc:(c==10)=false:=by rw [beq_eq_false_iff_ne];exact h c (.head _)
  unfold dd
  rw [bx,dots]
  by_cases h46:c=46
  ·subst h46
   rw [if_pos ⟨rfl,rfl⟩,Ci r p λx hx=>h x (.tail _ hx)];rfl
  ·rw [if_neg λq=>h46 q.2,hc,Ci r p λx hx=>h x (.tail _ hx),if_neg (by simpa using h46)];rfl
theorem FM: ∀ps:List (List Nat),(∀p∈ps,∀c∈p,c∈wC)->dots ai (ps.flatMap (· ++[13,10]))=(ps.map dd).flatMap (· ++[13,10])
 |[],_=>rfl
 |p::ps,h=>by
  have ih:=FM ps λx hx=>h x (.tail _ hx)
  have:=Mt (ps.flatMap (· ++[13,10])) p λc hc=>(xc c (h p (.head _) c hc)).2.1
  rw [bh,aJ]
  rw [ih] at this
  rw [show [13,10]++ps.flatMap (· ++[13,10])=13::10::ps.flatMap (· ++[13,10]) from rfl,this]
  simp
theorem Am (hw:12<=w) (h: ∀q∈l,oW q) (he:sW Ud):ul (qR w ((oy l).flatMap nU) Ud)=((pI w l).map dd).flatMap (· ++[13,10]):=by
 unfold ul
 rw [Au h,Eh he _ λp hp=>(vL hw h p hp).1,FM _ λp hp=>(vL hw h p hp).1]
theorem Js (h: ∀c∈p,c∈wC): ∀c∈dd p,c∈wC:=by
 intro c hc
 unfold dd at hc
 split at hc
 ·rcases ao.mp hc with rfl|hc
  ·decide
  ·exact h c hc
 ·exact h c hc
theorem OO (h:p=[]\/ ∃q c,p=q++[c]/\c∈61::xb):Txt.rstrip (S (dd p))=S (dd p):=by
 rcases h with rfl|⟨q,c,rfl,hc⟩
 ·decide+kernel
 ·unfold dd
  split
  ·exact yr (l:=46::q) (FO c hc).1
  ·exact yr (FO c hc).1
theorem FX {α:Type} {f:α->α} {l:List α} (h: ∀a∈l,f a=a):l.map f=l:=by
 conv=>rhs;rw [<-kW l]
 exact aV h
theorem EF (hw:12<=w) (mark:List Nat): ∀{l:HP},(∀q∈l,oW q)->((l.flatMap (JM w)).map dd).flatMap (nH mark)=(l.map rm).flatMap (· ++mark)
 |[],_=>rfl
 |q::l,h=>by rw [bh,bi,bV,EF hw mark λx hx=>h x (.tail _ hx),RM hw (h q (.head _)),ba,bh]
theorem KL (hw:12<=w) (mark:List Nat) (h: ∀q∈l,oW q):((pI w l).map dd).flatMap (nH mark)=jn mark (l.map rm++[[],[]]):=by
 have e0:(([[]]:List (List Nat)).map dd).flatMap (nH mark)=mark:=by
  rw [ba,gV,bh,jw,show dd []=[] from rfl,bK,nH]
 rw [yj,pI,bi,bV,e0,EF hw mark h]
theorem OW {Q mark r:List Nat} (h:Q.getLastD 0=10) (ha:qX Q mark=r):vj Q mark=r:=by
 unfold vj
 rw [h,if_neg (λq=>absurd q.1 (by decide)),ha]
theorem Ln (L:List (List Nat)):((L++[[]]).flatMap (· ++[13,10])).getLastD 0=10:=by
 have e1:(L++[[]]).flatMap (· ++[13,10])=(L.flatMap (· ++[13,10])++[13])++[10]:=by
  rw [pM,aJ]
  rfl
 rw [e1,fU]
theorem Gs (hw:12<=w) (h: ∀q∈l,oW q) (he:sW Ud) (mark:List Nat):vj (ul (qR w ((oy l).flatMap nU) Ud)) mark=jn mark (l.map rm++[[],[]]):=by
 have hq:=Am hw h he
 have hl:Txt.lines (S (ul (qR w ((oy l).flatMap nU) Ud)))=((pI w l).map dd).map S:=by
  rw [hq]
  refine Di (.inr (.inl rfl)) λx hx c hc=> ?_
  obtain ⟨p,hp,rfl⟩:=aK.mp hx
  exact (xc c (Js (vL hw h p hp).1 c hc)).1
 have hd:oX (ul (qR w ((oy l).flatMap nU) Ud))=(pI w l).map dd:=by
  unfold oX
  rw [hl,aB]
  refine FX (λa ha=> ?_)
  refine mR (aK.mp ha) λp hp T1=> ?_;obtain rfl:=T1
  show (Txt.rstrip (S (dd p))).cps.toList=dd p
  rw [OO (vL hw h p hp).2.2]
 refine OW ?_ ?_
 ·rw [hq,pI,bi]
  exact Ln _
 ·unfold qX
  rw [hd]
  exact KL hw mark h
theorem K2 (h:oW q): ∀c∈rm q,c≠10/\c≠13:=by
 intro c hc
 have hd: ∀c∈dd q.1,c∈wC:=Js λc hc=>.tail _ (.tail _ (.tail _ (ax _ (h.n3 c hc))))
 rcases ar.mp hc with hc|hc
 ·exact (xc c (hd c hc)).2
 ·rcases ao.mp hc with rfl|hc
  ·decide
  ·rcases ao.mp hc with rfl|hc
   ·decide
   ·have:=h.v3 c hc;exact (my (.i (.l xR xA) (.a (.n (.e xA (.c 10))) (.n (.e xA (.c 13))))) [_]) this.1
theorem Jc {l:HP} (h: ∀q∈l,oW q) (hm:sW mark):Txt.split (S (jn mark (l.map rm++[[],[]]))) (S mark)=(l.map rm++[[],[]]).map S:=by
 refine ni (tX hm) λc t e hc hd z=> ?_
 cases hl:l.map rm++[[],[]] with
 |nil=>simp at hl
 |cons y ls=>
  refine yT e hd λx hx=> ?_
  rw [<-hl] at hx
  rcases ar.mp hx with hx|hx
  ·obtain ⟨q,h1,rfl⟩:=aK.mp hx
   intro q'
   have:=K2 (h q h1) c q'
   rcases hc with rfl|rfl
   ·exact this.1 rfl
   ·exact this.2 rfl
  ·simp only [ao,fD,or_false,or_self] at hx
   rw [hx];exact λq=>nomatch q
theorem HY (h:oW q):Txt.split (S (rm q)) (S [58,32])=[S (dd q.1),S q.2]:=by
 have e:rm q=jn [58,32] [dd q.1,q.2]:=by simp [rm,jn]
 rw [e]
 refine yT (c:=58) (t:=[32]) rfl (by decide) λx hx=> ?_
 simp only [ao,fD,or_false] at hx
 rcases hx with rfl|rfl
 ·intro hc
  unfold dd at hc
  split at hc
  ·rcases ao.mp hc with q|hc
   ·cases q
   ·exact (zm _ (h.n3 _ hc)).2.2.1 rfl
  ·exact (zm _ (h.n3 _ hc)).2.2.1 rfl
 ·intro hc
  have:=h.v3 _ hc;exact (my (.n (.l xR (.c 58))) [] []) this.1
end
section
open PySem.Calls PyProof.Rows PySem.Builtin.Str
section
variable {prog:aH} {w:av} {A:aX} {X:List aF} {I:aW->Prop} {φ:Fs}
theorem Ht (i:IntsAre vs ns):mK X h (ns.map PV.int) vs:=by
 induction i with
 |nil=>exact mK.nil
 |cons _ _ _ i=>exact mK.cons tH i
theorem Oo {ns:List Int} (hh:A.handled=az):pV prog w A X I (.builtin "sum") [.list (ns.map PV.int)] (.int ns.sum):=λs vs z z r=>by
 refine mR (qJ r) λv T1 r1=> ?_;obtain rfl:=T1
 refine ni (pD r1) λa us T1 z hl hr=> ?_;obtain rfl:=T1
 have hi:=uE hr
 refine eE hi.allInts.items λxs e=> ?_
 have en:numsOf us=ns:=hi.numsOf
 refine sum_intListG hh (e▸hl) λh' tk t' hk=>⟨⟨h',tk,rfl,hk⟩,?_⟩
 have:preSum (numAt xs) xs.size=ns.sum:=by
  have e2:=nums_intItems xs
  rw [<-e] at e2
  have e3:numsOf us.toArray.toList=ns:=en
  rw [preSum_eq,bF (by simp)]
  rw [e2] at e3
  rw [e3]
 rw [this]
 exact tH
theorem Oe {ns:List Int} (hh:A.handled=az) (hM:M∈ns) (Vm: ∀a∈ns,a<=M):pV prog w A X I (.builtin "max") [.list (ns.map PV.int)] (.int M):=λs vs z z r=>by
 refine mR (qJ r) λv T1 r1=> ?_;obtain rfl:=T1
 refine ni (pD r1) λa us T1 z hl hr=> ?_;obtain rfl:=T1
 have hi:=uE hr
 have Uk:0<us.length:=by rw [hr.len,ah];exact List.length_pos_of_mem hM
 obtain ⟨xs,e⟩:=hi.allInts.items
 have en:numsOf us=ns:=hi.numsOf
 have hsz:0<xs.size:=by
  have:=congrArg Array.size e
  simp [intItems] at this
  exact (my (.i (.b xJ xB) (.i (.e xB xA) (.b xJ xA))) [_,_]) Uk this
 refine max_intList hh (e▸hl) hsz λv h' tk hv hk=>⟨⟨h',tk,rfl,hk⟩,?_⟩
 obtain ⟨t,rfl⟩:=intItems_at hv
 refine eA (argBest_gt (numAt xs) (xs.size - 1)) λh1 h2=> ?_
 have e2:=nums_intItems xs
 rw [<-e] at e2
 have e3:numsOf us.toArray.toList=ns:=en
 rw [e2] at e3
 generalize hk:l0 (λi j=>decide (numAt xs i>numAt xs j)) (xs.size - 1)=k at*
 have m1:numAt xs k∈ns:=by
  rw [numAt_eq,<-e3]
  exact PySem.getD_mem (by rw [ah,lj];exact (my (.i (.b xJ xB) (.i (.l xA (.s xB xI)) (.b xA xB))) [_,_]) hsz h1)
 have m2:M<=numAt xs k:=by
  rw [<-e3] at hM
  obtain ⟨j,hj,e4⟩:=PySem.mem_getD hM
  rw [ah,lj] at hj
  rw [<-e4,<-numAt_eq]
  exact h2 j (by exact (my (.i (.b xA xB) (.l xA (.s xB xI))) [_,_]) hj)
 have:=Vm _ m1
 rw [show numAt xs k=M by exact (my (.i (.L xB xA) (.i (.L xA xB) (.E xA xB))) [] [_,_]) m2 this]
 exact tH
theorem HE (h64:ns.length<64):pV prog w A X I (.builtin "sorted") [.list (ns.map PV.int)] (.list ((sortI ns).map PV.int)):=λs vs z lx r=>by
 refine mR (qJ r) λv T1 r1=> ?_;obtain rfl:=T1
 refine ni (pD r1) λa us T1 z hl hr=> ?_;obtain rfl:=T1
 have hi:=uE hr
 have Ue:us.length<64:=by rw [hr.len,ah];exact h64
 refine sorted_ints hl hi Ue λout ns' a1 a2 a3=> ?_
 refine eE (sortedAll_at s.heap us out) λe he=> ?_
 have hk:mU s.heap (sortedAll s.heap us out):=λz z=>sortedAll_old
 refine ⟨⟨_,s.toks,rfl,hk⟩,?_⟩
 rw [<-eq_sortI a2 a3]
 refine uD (vs:=out.toList) (λq=> ?_) ⟨_,he,rfl,e,rfl⟩ (Ht a1)
 obtain ⟨o,e'⟩:=lx _ q
 exact absurd (aR e') (i7.mpr (iy _))
theorem Kd (hz:ps.length<=100000):pV prog w A X I (.type "tuple") [.list ps] (.tup ps):=λs vs z lx r=>by
 have XG:=aw
 refine mR (qJ r) λv T1 r1=> ?_;obtain rfl:=T1
 refine ni (pD r1) λa us T1 z hl hr=> ?_;obtain rfl:=T1
 refine call_tuple_list hl (λh' hk=> ?_) (by rw [bo,hr.len];exact (my (.i (.l xA (.c 100000)) (.i (.e xB xL) (.l xA xB))) [_,_]) hz XG)
 have kk:mU s.heap (h'.push {cls:=.type "tuple",data:=.seq us.toArray}):=λb o e=>aO _ (hk b o e)
 refine ⟨⟨_,s.toks,rfl,kk⟩,Eg (λq=> ?_) ⟨_,au _ rfl,rfl,_,rfl⟩ (hr.keep kk)⟩
 obtain ⟨o,e'⟩:=lx _ q
 exact absurd (aR (hk _ _ e')) (bY _)
theorem Dw (l:List Nat): ∀k,(aG k l).flatten.length=k*l.length
 |0=>by simp
 |k+1=>by rw [cq,cu,af,Dw l k,Nat.succ_mul];exact my (.e (.a xA xB) (.a xB xA)) [_,_]
theorem Dg (l:List Nat): ∀(k:Nat) (Ut:Array Nat),((aG k l.toArray).foldl (· ++ ·) Ut)=Ut++(aG k l).flatten.toArray
 |0,Ut=>by rfl
 |k+1,Ut=>by
  rw [cq,eY,Dg l k,cq,cu]
  simp
theorem ye {k:Nat} (hl:l.length<=1000) (hk:k<=1000):n0 prog w A X (cf .Mult) (.str (S l)) (.int (k:Int)) (.str (S (aG k l).flatten)):=λs x y _ r q=>by
 have XG:=aw
 obtain ⟨t,rfl⟩:=nt r
 refine eE (tB q) λu T1=> ?_;obtain rfl:=T1
 have Ue:(S l).length=l.length:=mW l
 have hkl:k*l.length<=1000000:=by
  have:=gq hk hl;omega
 refine P.mul_str (by rw [decide_eq_false (by exact my (.n (.B (.k xA) (.g xS))) [_]),decide_eq_false (by exact (my (.i (.l xA xQ) (.n (.L xS (.k xA)))) [_]) hk)];rfl) (λh1 h2=> ?_) (λh1 h2=> ?_) ?_
 ·rw [Ue]
  have VD:(1:Int)<=k:=by exact (my (.i (.n (.B (.k xA) xI)) (.L xI (.k xA))) [_]) h1
  have:(1000:Int)<=(2^63 - 1)/k:=by
   rw [Int.le_ediv_iff_mul_le (by exact (my (.i (.n (.B (.k xA) xI)) (.B xJ (.k xA))) [_]) h1)]
   exact (my (.i (.l xA xQ) (.L (.m 1000 (.k xA)) (.s xS xI))) [_]) hk
  exact (my (.i (.l xA xQ) (.i (.L xQ xA) (.n (.B xA (.k xA))))) [_] [_]) hl this
 ·rw [Ue,ca]
  unfold gx
  have:l.length*k<=1000000:=by rw [eM];exact hkl
  simp only [decide_eq_false_iff_not]
  exact (my (.i (.e xA xL) (.i (.l xB (.c 1000000)) (.n (.b xA xB)))) [_,_]) XG this
 ·cases k with
  |zero=>
   rw [if_pos (by exact my (.B (.k xJ) xI) [] [])]
   refine ⟨by decide,⟨_,_,rfl,λ_ _ e=>e⟩,?_⟩
   exact oh
  |succ k=>
   rw [if_neg (by exact my (.n (.B (.k (.a xA xI)) xI)) [_])]
   split
   ·rename_i c
    refine ⟨⟨_,_,rfl,λ_ _ e=>e⟩,?_⟩
    have:S l=S (aG (k+1) l).flatten:=by
     rw [Bool.or_eq_true,beq_iff_eq,beq_iff_eq] at c
     rcases c with c|c
     ·obtain rfl:k=0:=by exact (my (.i (.E (.k (.a xA xI)) xI) (.e xA xJ)) [_]) c
      simp
     ·rw [Ue] at c
      rw [aY.mp c]
      congr 1
      symm
      rw [List.flatten_eq_nil_iff]
      intro x hx
      exact (dW.mp hx).2
    rw [<-this]
    exact oh
   ·have e:(⟨(aG ((k+1:Nat):Int).toNat (S l).cps).foldl (· ++ ·) #[]⟩:Str)=S (aG (k+1) l).flatten:=by
     rw [ca]
     apply iw
     rw [Dg]
     simp [S]
    rw [e]
    refine ⟨by rw [mW,Dw];exact (my (.i (.e xB xL) (.i (.l xA (.c 1000000)) (.l xA xB))) [_,_]) XG hkl,⟨_,_,rfl,λ_ _ e=>e⟩,oh⟩
end
section
variable {prog:aH} {w:av} {φ:Fs}
theorem Cy {st:Expr} {lo hi0:Option Int} (hv:Ev prog w φ value (.list (ns.map PV.int))) (hl:yV prog w φ lower lo) (hu:yV prog w φ upper hi0) (hs:yV prog w φ (aa st) (aa k)) (hk:k≠0)
  (hsz:ns.length<=bn):Ev prog w φ (.Subscript value (.Slice lower upper (aa st) p) pos) (.list ((i5 ns lo hi0 (aa k)).map PV.int)):=.mk λs i=>by
 refine Subscript_ (ab (hv.run s i) (λv T0 uu=>eA uu λT2 T5=>j5 (ab (hl.run T0 (φ.mono' i T2)) (λvl T3 uu=>oV uu λT4 lt e2 V3=>ab (hu.run T3 (φ.mono' i (mH T2 T4))) (λvu Ua uu=>oV uu λUc ut e3 Xr=>
  ab (hs.run Ua (φ.mono' i (mH T2 (mH T4 Uc)))) (λvst Um uu=>oV uu λUx stt e4 e4'=> ?_) λz z e=>e) λz z e=>e) λz z e=>e)) λz z e=>e)
 subst e2 e3 e4
 refine ni (pD T5) λa vs T1 ha We hr=> ?_;obtain rfl:=T1
 have kk:=mH T2 (mH T4 (mH Uc Ux))
 have VJ:=mH (mH T4 (mH Uc Ux)) (mZ Um {cls:=.type "slice",data:=.fields #[cK lt,cK ut,cK stt]} Um.toks)
 have hl4:=We.at λo e=>mG VJ _ _ e
 have hi:=uE hr
 refine vG hl4.typeIs fP.lookup (g5 hl4 (gQ _ _ _ _) (xa V3) (xa Xr) (xa e4') (by simpa using hk) ?_ (by rw [bo,hr.len,ah];exact hsz))
 have lx:=φ.live _ (φ.mono' i (mH kk (mZ Um {cls:=.type "slice",data:=.fields #[cK lt,cK ut,cK stt]} Um.toks)))
 have h2:=IntsAre.pick hi lo hi0 (aa k)
 have:=uG (s:={Um with heap:=Um.heap.push {cls:=.type "slice",data:=.fields #[cK lt,cK ut,cK stt]}}) (tk:=Um.toks) lx (Ht h2)
 exact ⟨mH T2 (mH VJ this.1),this.2⟩
end
section
variable {prog:aH} {w:av} {A:aX} {E:ay->aq->Prop} {s:aq}
theorem zV {Ug} {Q:ay->aq->Prop} (WC:s.heap.IsTupleIter it t i)
  (ht:s.heap.IsTuple t Ug) (hx:Ug[i]? =aa x)
  (hQ: ∀h',h'.IsTupleIter it t (i+1)->cL it s.heap h'->Q x {s with heap:=h'}):
  aC (aI prog w) A (ii (.ref it)) Q E s:=by
 refine tF (id WC) λo ho hc hd=> ?_
 refine Ir ht λol Wc z nl hdl=> ?_
 refine ae (fz (name:=aS "__next__") WC.typeIs F.slot_tuple_iterator_next
  (dA F.slot_tuple_iterator_next WC.typeIs F.entry_tuple_iterator_next ?_ (F.args_tuple_iterator_next_1 _)))
 show aC _ _ (field (.ref it) 0 >>= _) _ _ s
 refine ae (ed ho hd (x:=.ref t) rfl ?_)
 rw [if_neg (show ¬((jo t==iJ)=ai) from dz)]
 refine ae (ed ho hd (x:=.int i 0) rfl ?_)
 refine ae (dY Wc hdl ?_)
 simp only [ca,hx]
 refine ae (wpAny_setField ho hd (by simp) (aj ⟨x,rfl,aj (hQ _ ?_ (ef ..))⟩))
 exact ⟨_,cr _ ho (Obj.isFreed_of_fields (mj hd _)),(Obj.cls_mapFields ..).trans hc,by
  rw [mj hd];simp [eQ]⟩
theorem A7 {Ug} {Q:ay->aq->Prop} (hh:A.handled=az)
  (WC:s.heap.IsTupleIter it t i) (hl:s.heap.IsTuple t Ug) (hx:Ug[i]? =az)
  (hE: ∀h' e,aW.ExtBut it s.heap h'->(∃o,h'.get? e=aa o/\o.cls= .type "StopIteration")->E (.ref e) {s with heap:=h'}):
  aC (aI prog w) A (ii (.ref it)) Q E s:=by
 refine tF (id WC) λo ho hc hd=> ?_
 refine Ir hl λol Wc z nl hdl=> ?_
 refine ae (fz (name:=aS "__next__") WC.typeIs F.slot_tuple_iterator_next
  (dA F.slot_tuple_iterator_next WC.typeIs F.entry_tuple_iterator_next ?_ (F.args_tuple_iterator_next_1 _)))
 show aC _ _ (field (.ref it) 0 >>= _) _ _ s
 refine ae (ed ho hd (x:=.ref t) rfl ?_)
 rw [if_neg (show ¬((jo t==iJ)=ai) from dz)]
 refine ae (ed ho hd (x:=.int i 0) rfl ?_)
 refine ae (dY Wc hdl ?_)
 simp only [ca,hx]
 refine ae (gJ (ae (wpAny_setField ho hd (by simp) ?_)))
 refine ae ?_
 refine ae (eI ?_ (by size_fits))
 refine ae (m:=firstArgMember _ _) (bD (a:=iJ) (by first|rfl|(simp only [firstArgMember];rfl)) ?_)
 refine eI ?_ (by size_fits)
 refine ae (wpAny_handled ?_)
 first|rw [show A.in1.handled=az from hh]|rw [hh]
 refine ae (aj (wpAny_throw ?_))
 exact hE _ _ (((ef ..).extBut.push _).push _) ⟨_,au _ rfl,rfl⟩
theorem Gu (hh:A.handled=az) (it l:aF) (Uk:l≠it) (Ug:Array ay):
  Draws prog w A it [it,l] Ug.size (λi v=>Ug[i]? =aa v) (λi h=>h.IsTupleIter it l i/\h.IsTuple l Ug) where
 live:=λi h ⟨⟨o,ho,z⟩,y⟩=>⟨o,ho⟩
 frame:=λi h h' ⟨⟨o,a,r⟩,⟨o',b,r'⟩⟩ hk=>⟨⟨o,hk it (.head _) _ a,r⟩,⟨o',hk l (.tail _ (.head _)) _ b,r'⟩⟩
 item:=λi s Q E hi st hQ=>zV st.1 st.2 (eK hi) λh' hit' hs=>hQ _ h' s.toks (eK hi) ⟨hit',st.2.extBut hs.extBut Uk⟩ hs
 done:=λs Q E st hE=>A7 hh st.1 st.2 (by simp) λh' e he ho=>hE h' e he ho
set_option tactic.hygienic true in
theorem yg (l:aF) (Ug:Array ay) (n:Nat) (VE:Option aF) (sl:Array (Option ay)):
  Meets (Builtin.«enumerate.__new__» ⟨[.type "enumerate",.ref l],[]⟩) (λ_ R s=>s.heap.get? l=aa {cls:=.type "tuple",dict:=VE,data:=.seq Ug n,slots:=sl}/\
   R (.ok (.ret (.ref (s.heap.push {cls:=.type "tuple_iterator",data:=.fields #[.ref l,.int 0 0]}).objs.size)))
    {s with heap:=(s.heap.push {cls:=.type "tuple_iterator",data:=.fields #[.ref l,.int 0 0]}).push {cls:=.type "enumerate",data:=.fields #[.none,.bool false,.ref s.heap.objs.size,eQ 0,.none,.none]}}):=
 .of_wp λprog w A R s h=>by
  obtain ⟨hp,g,d,tk,os⟩:=s;refine eA h λhl h=> ?_
  have hsub:=sub_enumerate
  have hL:aW.IsTuple (aq.heap ⟨hp,g,d,tk,os⟩) l Ug:=⟨_,hl,rfl,n,rfl⟩
  wp_walk using iF hl
  refine wpAny_stack_any λst=>aj ?_
  split
  ·rename_i c _ _ _ _ _
   cases (c==du "enumerate")
   ·wp_walk using iF hl,et hL
    exact ⟨_,rfl,h⟩
   ·wp_walk using iF hl,et hL
    exact ⟨_,rfl,h⟩
  ·wp_walk using iF hl,et hL
   exact ⟨_,rfl,h⟩
theorem zf {Q:ay->aq->Prop} (hL:s.heap.IsTuple l Ug)
  (h: ∀h',IsEnum h' (s.heap.objs.size+1) s.heap.objs.size 0 .none->h'.IsTupleIter s.heap.objs.size l 0->h'.objs.size=s.heap.objs.size+2->
   (∀b o,s.heap.get? b=aa o->h'.get? b=aa o)->Q (.ref (s.heap.objs.size+1)) {s with heap:=h'}):
  aC (aI prog w) A (ft (.type "enumerate") [.ref l]) Q E s:=by
 obtain ⟨⟨c,VE,dt,sl⟩,hl,hc,n,hd⟩:=hL
 replace hc:c= .type "tuple":=hc
 replace hd:dt= .seq Ug n:=hd
 subst hc hd
 refine callType_new F.called_enumerate (by decide) (F.typeCall_enumerate_1 _) (F.newCall_enumerate_1 _) (λobj=>F.args_object_init_2 obj _) F.entry_enumerate_new
  (yg l Ug n VE sl) ⟨hl,?_⟩
 have hz:(s.heap.push {cls:=.type "tuple_iterator",data:=.fields #[.ref l,.int 0 0]}).objs.size=s.heap.objs.size+1:=cw ..
 rw [hz]
 have he:IsEnum ((s.heap.push {cls:=.type "tuple_iterator",data:=.fields #[.ref l,.int 0 0]}).push
   {cls:=.type "enumerate",data:=.fields #[.none,.bool false,.ref s.heap.objs.size,eQ 0,.none,.none]}) (s.heap.objs.size+1) s.heap.objs.size 0 .none:=by
  have:=au (s.heap.push {cls:=.type "tuple_iterator",data:=.fields #[.ref l,.int 0 0]})
   (o:={cls:=.type "enumerate",data:=.fields #[.none,.bool false,.ref s.heap.objs.size,eQ 0,.none,.none]}) rfl
  rw [hz] at this;exact this
 refine ⟨⟨_,he,rfl⟩,h _ he ⟨_,aO _ (au _ rfl),rfl,rfl⟩ (by rw [cw,hz]) λb o x=>aO _ (aO _ x)⟩
end
section
variable {prog:aH} {w:av} {c:Sc} {σ:mX} {Λ:List (aF×List PV)}
theorem Jz (he:EP prog w (fs c σ Λ) iter "enumerate" [.tup ps]) (hh:c.A.handled=az) (ho: ∀b∈own,b∈c.X):
  uy prog w c σ Λ own (.Tuple Vd ek epos) iter ((ps.mapIdx λi p=>[.int i,p]).map .tup):=.mk λs i=>by
 refine he.run s i _ λT0 vs T2 r=> ?_
 refine nh r ?_;clear r;intro v us T1 r q;obtain rfl:=T1
 subst q
 refine ni r ?_;clear r;intro a vs T1 ha hl hr;obtain rfl:=T1
 have hr:mK c.X T0.heap ps vs:=hr
 have hn:a∉own:=λq=>ha (ho a q)
 refine mR (id hl) λo e1 e2=> ?_
 have lt: @ky Nat _ a T0.heap.objs.size:=aR e1
 have ga:(hideAll T0.heap own).get? a=aa o:=bS _ e1 hn
 refine zf hl λh' hE hI hz hk=> ?_
 refine wpAny_pyIter_enum hE ?_
 have T4:bB T0 {T0 with heap:=h'}:=⟨h',T0.toks,rfl,hk⟩
 have hla:h'.IsTuple a vs.toArray:=let ⟨o,e,r⟩:=hl;⟨o,hk _ _ e,r⟩
 refine ⟨T0,_,[T0.heap.objs.size+1,T0.heap.objs.size],_,rfl,yh (WalksT.enumerateD (Gu (A:=c.A.in1) hh T0.heap.objs.size a (pb (by exact (my (.i (.b xA xB) (.o (.b xA xB) (.b xB xA))) [_,_]) lt)) vs.toArray) (T0.heap.objs.size+1) (pb (by exact my (.o (.b (.a xA xI) xA) (.b xA (.a xA xI))) [_])) (by simp;exact (pb (by exact (my (.i (.b xB xA) (.o (.b (.a xA xI) xB) (.b xB (.a xA xI)))) [_,_]) lt))) (by simp)) (λy h=>h) (λb hb=> ?_) (λb hb=> ?_) (λi h st b hb=> ?_) ?_ (λj p v h Y e1 e2 k hY=> ?_),
  ⟨⟨⟨_,hE⟩,hI,hla⟩,λb o e=>hk _ _ (bU _ e)⟩,T2,T4,λb hb=> ?_⟩
 ·simp at hb
  rcases hb with rfl|rfl|rfl
  ·exact .inl (.head _)
  ·exact .inl (.tail _ (.head _))
  ·exact .inr ⟨o,ga⟩
 ·simp at hb
  rcases hb with rfl|rfl
  ·exact ph (n6 (by exact my (.l xA (.a xA xI)) [_]))
  ·exact ph (n6 (by exact my (.l xA xA) [_]))
 ·simp at hb
  rcases hb with rfl|rfl
  ·obtain ⟨⟨old,q⟩,_⟩:=st;exact ⟨_,q,λv z=>nomatch z⟩
  ·obtain ⟨_,⟨o,q1,q2,q3⟩,_⟩:=st;exact ⟨o,q1,λv z=>by rw [q3] at z;cases z⟩
 ·rw [bo,hr.len,lU]
 ·obtain ⟨t,x,q,rfl⟩:=e2
  rw [kZ] at e1
  refine mR (dT.mp e1) λp' hp T1=> ?_;obtain rfl:=T1
  exact mK.cons (by exact ⟨t,rfl⟩) (mK.cons (mP.keep k ((hr.get' hp q |>.keepX (so ho)).sub hY)) mK.nil)
 ·simp at hb
  rcases hb with rfl|rfl
  ·exact n6 (by exact my (.l xA (.a xA xI)) [_])
  ·exact n6 (by exact my (.l xA xA) [_])
end
section
variable {prog:aH} {w:av} {A:aX} {E:ay->aq->Prop} {s:aq}
theorem Gf {Q:Option Obj->aq->Prop} (ho:s.heap.get? a=aa o) (h:Q (aa o) s):aC M A (loadIfAlive a) Q E s:=λΓ p z=>by
 show iX M Γ (.loadIfAlive a .pure) _ _ p s
 rw [Sem.wp_loadIfAlive,ho]
 exact h
abbrev uv (h:aW) (z TI TO T:aF) (b:Bool):Prop:=
 h.get? z=aa {cls:=.type "zip",dict:=az,data:=.fields #[eQ T,.bool b,.bool false,.ref TI,.ref TO],slots:= #[]}
theorem Dq {oT:Obj} (hz:uv s.heap z TI TO T b) (hT:s.heap.get? T=aa oT):
  aC (aI prog w) A (Builtin.SmallTypes.ownedTupleIsFree (.ref z)) (λr s'=>r=false/\ ∃Ub,s'={s with heap:=Ub}/\uv Ub z TI TO T ai/\cL z s.heap Ub) E s:=by
 refine ae (ed hz rfl (x:=eQ T) rfl ?_)
 show aC _ _ (loadIfAlive (Int.toNat (T:Int)) >>= _) _ _ _
 rw [ca]
 refine ae (Gf hT ?_)
 simp only [Option.isNone_some,a9,if_false]
 refine ae (ed hz rfl (x:=.bool b) rfl ?_)
 cases b
 ·simp only [show ((jJ false !=jJ ai)=ai) from rfl,if_true]
  refine ae (wpAny_setField_rec hz (by simp) λUb hz1 UI=> ?_)
  exact aj ⟨rfl,Ub,rfl,hz1,UI⟩
 ·have: ¬((jJ ai !=jJ ai)=ai):=by decide
  simp only [this,if_false,a9]
  first
   |exact aj ⟨rfl,s.heap,rfl,hz,.refl ..⟩
   |exact ae (aj (aj ⟨rfl,s.heap,rfl,hz,.refl ..⟩))
theorem DI {oT:Obj} {Q:ay->aq->Prop} (D:i4 z TI TO i1 i2 l1 l2)
  (hz:uv s.heap z TI TO T b) (hT:s.heap.get? T=aa oT) (Xi:gX s.heap TI (.ref i1) (.ref i2))
  (h1:s.heap.IsListIter i1 l1 k1) (h2:s.heap.IsListIter i2 l2 k2) (hl1:s.heap.IsList l1 xs) (hl2:s.heap.IsList l2 ys) (hx:xs[k1]? =aa x) (hy:ys[k2]? =aa y)
  (hQ: ∀h',uv h' z TI TO T ai->h'.IsListIter i1 l1 (k1+1)->h'.IsListIter i2 l2 (k2+1)->gX h' s.heap.objs.size x y->h'.objs.size=s.heap.objs.size+1->
   (∀c o,c≠z->c≠i1->c≠i2->s.heap.get? c=aa o->h'.get? c=aa o)->Q (.ref s.heap.objs.size) {s with heap:=h'}):
  aC (aI prog w) A (Builtin.«zip.__next__» ⟨[.ref z],[]⟩) (λqt s'=> ∃v,qt= .done (.ret v)/\Q v s') E s:=by
 show aC _ _ (field (.ref z) 2 >>= _) _ _ _
 refine ae (ed hz rfl (x:=.bool false) rfl ?_)
 refine ae (ed hz rfl (x:=.ref TI) rfl ?_)
 refine ae (dY Xi rfl ?_)
 refine ae (ab (Dq (E:=E) hz hT) (λr T0 uu=>M0 uu λe Ub e' hz1 UI=> ?_) λj j e=>e)
 subst e e'
 simp only [a9,if_false]
 rw [<-lI]
 simp only [cD,ik]
 refine ae (ae (ae (bL ?_)))
 refine ae (mf (h1.extBut UI.extBut D.i1z) (hl1.extBut UI.extBut D.l1z) hx λUu h1₂ U7=>aj (aj ?_))
 refine ae (ae (bL ?_))
 refine ae (mf ((h2.extBut UI.extBut D.i2z).extBut U7.extBut D.i12.symm) ((hl2.extBut UI.extBut D.l2z).extBut U7.extBut D.l2i1) hy λUo h2₃ hs3=>aj (aj ?_))
 refine aj ?_
 refine ae (wpAny_newTuple ?_ (by show 2<=bn;decide))
 have hsz:Uo.objs.size=s.heap.objs.size:=by rw [hs3.1,U7.1,UI.1]
 have hz₃:uv Uo z TI TO T ai:=hs3.extBut _ _ D.i2z.symm (U7.extBut _ _ D.i1z.symm hz1)
 have h1₃:Uo.IsListIter i1 l1 (k1+1):=h1₂.extBut hs3.extBut D.i12
 refine aj ⟨_,rfl,?_⟩
 rw [hsz]
 have pk: ∀c o,Uo.get? c=aa o->(Uo.push {cls:=.type "tuple",data:=.seq #[x,y]}).get? c=aa o:=λc o e=>aO _ e
 refine hQ _ (pk _ _ hz₃) (h1₃.at λo e=>pk _ o e) (h2₃.at λo e=>pk _ o e) ?_ (by rw [cw,hsz]) λc o c1 c2 c3 e=>pk _ _ (hs3.extBut _ _ c3 (U7.extBut _ _ c2 (UI.extBut _ _ c1 e)))
 rw [<-hsz]
 exact au _ rfl
theorem Ez {oT:Obj} {Q:Fin->aq->Prop} (hh:A.handled=az) (D:i4 z TI TO i1 i2 l1 l2)
  (hz:uv s.heap z TI TO T b) (hT:s.heap.get? T=aa oT) (Xi:gX s.heap TI (.ref i1) (.ref i2))
  (h1:s.heap.IsListIter i1 l1 k1) (hl1:s.heap.IsList l1 xs) (hx:xs[k1]? =az)
  (hE: ∀h' e,(∀c o,c≠z->c≠i1->s.heap.get? c=aa o->h'.get? c=aa o)->(∃o,h'.get? e=aa o/\o.cls= .type "StopIteration")->E (.ref e) {s with heap:=h'}):
  aC (aI prog w) A (Builtin.«zip.__next__» ⟨[.ref z],[]⟩) Q E s:=by
 show aC _ _ (field (.ref z) 2 >>= _) _ _ _
 refine ae (ed hz rfl (x:=.bool false) rfl ?_)
 refine ae (ed hz rfl (x:=.ref TI) rfl ?_)
 refine ae (dY Xi rfl ?_)
 refine ae (ab (Dq (E:=E) hz hT) (λr T0 uu=>M0 uu λe Ub e' hz1 UI=> ?_) λz z e=>e)
 subst e e'
 simp only [a9,if_false]
 rw [<-lI]
 simp only [cD,ik]
 refine ae (ae (ae (bL ?_)))
 refine ae (wpAny_nextOf_list_end hh (h1.extBut UI.extBut D.i1z) (hl1.extBut UI.extBut D.l1z) hx λUu e U7 he=> ?_)
 exact hE Uu e (λc o c1 c3 x=>U7 _ _ c3 (UI.extBut _ _ c1 x)) he
structure Dx (h:aW) (z TI TO i1 i2 l1 l2 S:aF) (xs ys:Array ay) (i:Nat):Prop where
 ti:gX h TI (.ref i1) (.ref i2)
 to: ∃a b,gX h TO a b
 it1:h.IsListIter i1 l1 i
 it2:h.IsListIter i2 l2 i
 li1:h.IsList l1 xs
 li2:h.IsList l2 ys
 zip:IsZip h z TI TO .none\/ ∃T b o,uv h z TI TO T b/\h.get? T=aa o/\T≠S/\T≠z/\T≠TO/\T≠i1/\T≠i2
theorem Dx.keep {h h':aW} {z TI TO i1 i2 l1 l2 S:aF} (t:Dx h z TI TO i1 i2 l1 l2 S xs ys i) (k: ∀c o,c≠S->h.get? c=aa o->h'.get? c=aa o) (hS:S≠z/\S≠TI/\S≠TO/\S≠i1/\S≠i2/\S≠l1/\S≠l2):Dx h' z TI TO i1 i2 l1 l2 S xs ys i where
 ti:=k _ _ hS.2.1.symm t.ti
 to:=let ⟨a,b,q⟩:=t.to;⟨a,b,k _ _ hS.2.2.1.symm q⟩
 it1:=t.it1.at λo e=>k _ o hS.2.2.2.1.symm e
 it2:=t.it2.at λo e=>k _ o hS.2.2.2.2.1.symm e
 li1:=t.li1.at λo e=>k _ o hS.2.2.2.2.2.1.symm e
 li2:=t.li2.at λo e=>k _ o hS.2.2.2.2.2.2.symm e
 zip:=by
  rcases t.zip with q|⟨T,b,o,q1,q2,q3⟩
  ·exact .inl (k _ _ hS.1.symm q)
  ·exact .inr ⟨T,b,o,k _ _ hS.1.symm q1,k _ _ q3.1 q2,q3⟩
theorem Lu {z TI TO i1 i2 l1 l2 S:aF} {Q:Option ay->aq->Prop} (D:i4 z TI TO i1 i2 l1 l2) (t:Dx s.heap z TI TO i1 i2 l1 l2 S xs ys i) (hS:S<s.heap.objs.size)
  (hx:xs[i]? =aa x) (hy:ys[i]? =aa y)
  (hQ: ∀h',Dx h' z TI TO i1 i2 l1 l2 S xs ys (i+1)->gX h' s.heap.objs.size x y->h'.objs.size=s.heap.objs.size+1->(∀c o,c≠z->c≠TO->c≠i1->c≠i2->s.heap.get? c=aa o->h'.get? c=aa o)->Q (aa (.ref s.heap.objs.size)) {s with heap:=h'}):
  aC (aI prog w) A (lW (.ref z)) Q E s:=by
 have lt: ∀{c o},s.heap.get? c=aa o->s.heap.objs.size≠c:=λe=>cZ (aR e)
 have n1:s.heap.objs.size≠i1:=by obtain ⟨_,e,_⟩:=t.it1;exact lt e
 have n2:s.heap.objs.size≠i2:=by obtain ⟨_,e,_⟩:=t.it2;exact lt e
 refine rN t.to λa b Vk=> ?_
 have qt: ∀h' b',uv h' z TI TO s.heap.objs.size b'\/(∃T b o,uv h' z TI TO T b/\h'.get? T=aa o/\T≠S/\T≠z/\T≠TO/\T≠i1/\T≠i2)->gX h' s.heap.objs.size x y->(∃a b,gX h' TO a b)->h'.IsListIter i1 l1 (i+1)->h'.IsListIter i2 l2 (i+1)->s.heap.objs.size≠z->s.heap.objs.size≠TO->
   (∀c o,c≠z->c≠TO->c≠i1->c≠i2->s.heap.get? c=aa o->h'.get? c=aa o)->Dx h' z TI TO i1 i2 l1 l2 S xs ys (i+1):=λh' b' hz hp hto a1 a2 nz nTO hk=>{
  ti:=hk _ _ D.TIz D.TITO D.TIi1 D.TIi2 t.ti
  to:=hto
  it1:=a1
  it2:=a2
  li1:=t.li1.at λo e=>hk _ o D.l1z D.l1TO D.l1i1 D.l1i2 e
  li2:=t.li2.at λo e=>hk _ o D.l2z D.l2TO D.l2i1 D.l2i2 e
  zip:=by
   rcases hz with q|q
   ·exact .inr ⟨_,b',_,q,hp,cZ hS,nz,nTO,n1,n2⟩
   ·exact .inr q}
 rcases t.zip with hz|⟨T,b',oT,hz,hT,nS,nz,nTO,m1,m2⟩
 ·refine wpAny_pyNext_zip_item D hz t.ti Vk t.it1 t.it2 t.li1 t.li2 hx hy λh' a1 a2 a3 a4 a5 a6 hk=> ?_
  exact hQ h' (qt h' false (.inl a1) a5 ⟨_,_,a2⟩ a3 a4 (lt hz) (lt Vk) hk) a5 a6 hk
 ·have hTy:s.TypeIs (.ref z) "zip":=⟨_,hz,rfl⟩
  refine ae (lk (fz (name:=aS "__next__") hTy F.slot_zip_next
   (dA F.slot_zip_next hTy F.entry_zip_next
    (DI D hz hT t.ti t.it1 t.it2 t.li1 t.li2 hx hy λh' a1 a2 a3 a4 a5 a6=>aj ?_) (F.args_zip_next_1 _))))
  have hk: ∀c o,c≠z->c≠TO->c≠i1->c≠i2->s.heap.get? c=aa o->h'.get? c=aa o:=λc o c1 z c3 c4 e=>a6 c o c1 c3 c4 e
  exact hQ h' (qt h' ai (.inr ⟨T,ai,oT,a1,a6 _ _ nz m1 m2 hT,nS,nz,nTO,m1,m2⟩) a4 ⟨a,b,a6 _ _ D.TOz D.TOi1 D.TOi2 Vk⟩ a2 a3 (lt hz) (lt Vk) hk) a4 a5 hk
theorem My {z TI TO i1 i2 l1 l2 S:aF} {xs ys:Array ay} {i:Nat} {Q:Option ay->aq->Prop} (hh:A.handled=az) (D:i4 z TI TO i1 i2 l1 l2) (t:Dx s.heap z TI TO i1 i2 l1 l2 S xs ys i)
  (hx:xs[i]? =az) (hQ: ∀h',(∀c o,c≠z->c≠TO->c≠i1->c≠i2->s.heap.get? c=aa o->h'.get? c=aa o)->Q az {s with heap:=h'}):
  aC (aI prog w) A (lW (.ref z)) Q E s:=by
 refine rN t.to λa b Vk=> ?_
 rcases t.zip with hz|⟨T,b',oT,hz,hT,nS,nz,nTO,m1,m2⟩
 ·exact wpAny_pyNext_zip_end hh D hz t.ti Vk t.it1 t.it2 t.li1 t.li2 (.inl hx) hQ
 ·have hTy:s.TypeIs (.ref z) "zip":=⟨_,hz,rfl⟩
  refine ae (lk (fz (name:=aS "__next__") hTy F.slot_zip_next
   (dA F.slot_zip_next hTy F.entry_zip_next (Ez (A:=A.in1) hh D hz hT t.ti t.it1 t.li1 hx λh' e hk he=> ?_) (F.args_zip_next_1 _))))
  refine mR he λo ho hc=> ?_
  refine ae (jU (T:="StopIteration") (b:=ai) ⟨o,ho,hc⟩ isSubtype_stop ?_)
  exact aj (hQ _ λc o c1 z c3 z e=>hk c o c1 c3 e)
def BY (h:aW) (N:Nat) (xs ys:Array ay) (Ut:Array ay) (i:Nat):Prop:=Ut.size=i/\ ∀(j:Nat) (v:ay),Ut[j]? =aa v-> ∃(T:aF) (x y:ay),v=jo T/\N<=T/\xs[j]? =aa x/\ys[j]? =aa y/\gX h T x y
theorem BY.push (a:BY h N xs ys Ut i) (hT:N<=T) (hx:xs[i]? =aa x) (hy:ys[i]? =aa y) (hp:gX h T x y):BY h N xs ys (Ut.push (.ref T)) (i+1):=by
 refine ⟨by rw [Array.size_push,a.1],λj v hj=> ?_⟩
 rw [Array.getElem?_push] at hj
 split at hj
 ·rename_i e;rw [a.1] at e;obtain rfl:=am hj;subst e;exact ⟨T,x,y,rfl,hT,hx,hy,hp⟩
 ·exact a.2 j v hj
theorem BY.keep {h h':aW} (a:BY h N xs ys Ut i) (k: ∀c o,N<=c->h.get? c=aa o->h'.get? c=aa o):BY h' N xs ys Ut i:=
 ⟨a.1,λj v hj=>let ⟨T,x,y,e,hN,h1,h2,hp⟩:=a.2 j v hj;⟨T,x,y,e,hN,h1,h2,k _ _ hN hp⟩⟩
theorem Mx {z TI TO i1 i2 l1 l2 S:aF} (hh:A.handled=az) (D:i4 z TI TO i1 i2 l1 l2) (hsz:xs.size=ys.size) (Vm:xs.size<=bn)
  (hS:S≠z/\S≠TI/\S≠TO/\S≠i1/\S≠i2/\S≠l1/\S≠l2) (hN:z<N/\TO<N/\i1<N/\i2<N/\S<N):
  ∀(k i:Nat) (s:aq) (Ut:Array ay) (c:Nat),xs.size - i=k->i<=xs.size->N<=s.heap.objs.size->Dx s.heap z TI TO i1 i2 l1 l2 S xs ys i->s.heap.get? S=aa {cls:=.type "list",dict:=az,data:=.seq Ut c,slots:= #[]}->BY s.heap N xs ys Ut i->
  (∀(h':aW) Vo c',(∀b o,b≠S->b≠z->b≠TO->b≠i1->b≠i2->s.heap.get? b=aa o->h'.get? b=aa o)->h'.get? S=aa {cls:=.type "list",dict:=az,data:=.seq Vo c',slots:= #[]}->BY h' N xs ys Vo xs.size->R (.ok (.ret res)) {s with heap:=h'})->
  gw (aI prog w) A (.builtin "list.extend.loop" ⟨[.ref S,.ref z,res],[]⟩) R s:=by
 intro k
 induction k with
 |zero=>
  intro i s Ut c hk hi hN2 UT hS' Vf hR
  have VS:i=xs.size:=by exact (my (.i (.e (.s xB xA) xJ) (.i (.l xA xB) (.e xA xB))) [_,_]) hk hi
  subst VS
  refine gp F.entry_extend_loop ?_
  rw [fG F.plain_extend_loop _]
  refine ae (My (A:=A.in1) hh D UT (by simp) λh' hk=> ?_)
  have hz:=hN.1;have Vk:=hN.2.1;have h1:=hN.2.2.1;have h2:=hN.2.2.2.1
  exact aj (hR h' Ut c (λb o z b1 b2 b3 b4 e=>hk b o b1 b2 b3 b4 e) (hk _ _ hS.1 hS.2.2.1 hS.2.2.2.1 hS.2.2.2.2.1 hS') (Vf.keep λc o hc e=>hk c o (cZ (bg hz hc)) (cZ (bg Vk hc)) (cZ (bg h1 hc)) (cZ (bg h2 hc)) e))
 |succ k ih=>
  intro i s Ut c hk hi hN2 UT hS' Vf hR
  have Un:i<xs.size:=by exact (my (.i (.e (.s xB xA) (.a xC xI)) (.b xA xB)) [_,_,_]) hk
  refine gp F.entry_extend_loop ?_
  rw [fG F.plain_extend_loop _]
  have hz:=hN.1;have Vk:=hN.2.1;have h1:=hN.2.2.1;have h2:=hN.2.2.2.1;have hSN:=hN.2.2.2.2
  have hx:=eK Un
  have hy:=eK (show i<ys.size by exact (my (.i (.e xC xB) (.i (.b xA xC) (.b xA xB))) [_,_,_]) hsz Un)
  refine ae (Lu (A:=A.in1) D UT (aR hS') hx hy λh' hst' hp WK XA=> ?_)
  have hS2:=XA _ _ hS.1 hS.2.2.1 hS.2.2.2.1 hS.2.2.2.2.1 hS'
  refine ae ?_
  have up: ∀b o,b≠S->h'.get? b=aa o->(h'.update S (fK (·.push (.ref s.heap.objs.size)))).get? b=aa o:=λb o hb e=>(df _ _ (Ne.symm hb)).trans e
  have hacc':=(Vf.keep λc o hc e=>XA c o (cZ (bg hz hc)) (cZ (bg Vk hc)) (cZ (bg h1 hc)) (cZ (bg h2 hc)) e).push hN2 hx hy hp
  refine fg hS2 rfl (aj ⟨ju F.plain_extend_loop _,ih (i+1) _ (Ut.push (.ref s.heap.objs.size)) _ (by exact (my (.i (.e (.s xA xB) (.a xC xI)) (.e (.s xA (.a xB xI)) xC)) [_,_,_]) hk) Un ?_ (hst'.keep up hS) (cr _ hS2 rfl) (hacc'.keep λc o hc e=>up c o (cZ (bg hSN hc)) e) λWu Vo c' hk'' hS3 Xc=> ?_⟩)
   (by rw [Vf.1];exact (my (.i (.l xC xB) (.i (.b xA xC) (.l xA xB))) [_,_,_]) Vm Un) (by rw [Array.size_push,Vf.1];exact (my (.i (.l xC xB) (.i (.b xA xC) (.l (.a xA xI) (.a xB xI)))) [_,_,_]) Vm Un)
  ·show N<=(h'.update S _).objs.size
   rw [gM,WK];exact (my (.i (.l xA xB) (.l xA (.a xB xI))) [_,_]) hN2
  ·exact hR Wu Vo c' (λb o b0 b1 b2 b3 b4 e=>hk'' b o b0 b1 b2 b3 b4 (up b o b0 (XA b o b1 b2 b3 b4 e))) hS3 Xc
theorem HT:fu (.type "zip") "__len__"=bG az:=by rw [cz,bA];kernel_rfl
theorem Gg:fu (.type "zip") "__length_hint__"=bG az:=by rw [cz,bA];kernel_rfl
theorem DH {Q:ay->aq->Prop} (hh:A.handled=az) (D:i4 z TI TO i1 i2 l1 l2) (hsz:xs.size=ys.size) (Vm:xs.size<=bn)
  (hz:IsZip s.heap z TI TO .none) (ti:gX s.heap TI (.ref i1) (.ref i2)) (Vk: ∃a b,gX s.heap TO a b) (it1:s.heap.IsListIter i1 l1 0) (it2:s.heap.IsListIter i2 l2 0) (li1:s.heap.IsList l1 xs) (li2:s.heap.IsList l2 ys)
  (hQ: ∀(h':aW) Vo c',(∀b o,b≠z->b≠TO->b≠i1->b≠i2->s.heap.get? b=aa o->h'.get? b=aa o)->h'.get? s.heap.objs.size=aa {cls:=.type "list",dict:=az,data:=.seq Vo c',slots:= #[]}->
   BY h' (s.heap.objs.size+1) xs ys Vo xs.size->Q (.ref s.heap.objs.size) {s with heap:=h'}):
  aC (aI prog w) A (ft (.type "list") [.ref z]) Q E s:=by
 have lt: ∀{c o},s.heap.get? c=aa o->s.heap.objs.size≠c:=λe=>cZ (aR e)
 have lt': ∀{c o},s.heap.get? c=aa o->c<s.heap.objs.size+1:=λe=>gG (aR e)
 refine rN Vk λa b Vk=> ?_
 refine mR (id it1) λo1 e1 y=> ?_
 refine mR (id it2) λo2 e2 y=> ?_
 refine mR (id li1) λo3 e3 y=> ?_
 refine mR (id li2) λo4 e4 y=> ?_
 refine callType_codes (Q₁:=λobj T0=>obj= .ref s.heap.objs.size/\T0={s with heap:=s.heap.push {cls:=.type "list",data:=.seq #[]}}) F.called_list (F.typeCall_list_1 _) F.entry_list_init
  (code_list_new _ ⟨rfl,rfl⟩) λobj T0 Ub=> ?_
 refine eA Ub ?_;clear Ub;intro T1 q2z;obtain rfl:=T1;obtain rfl:=q2z
 have hS:(s.heap.push {cls:=.type "list",data:=.seq #[]}).get? s.heap.objs.size=aa {cls:=.type "list",data:=.seq #[]}:=au _ rfl
 refine ⟨⟨_,hS,rfl⟩,F.args_list_init_2 _ _,?_⟩
 have pk: ∀c o,s.heap.get? c=aa o->(s.heap.push {cls:=.type "list",data:=.seq #[]}).get? c=aa o:=λc o e=>aO _ e
 have hzT: ∀s':aq,IsZip s'.heap z TI TO .none->s'.TypeIs (.ref z) "zip":=λs' h=>⟨_,h,rfl⟩
 refine ae ?_
 refine ae (dY hS rfl (aj ?_))
 refine ae (fg hS rfl ?_)
 have WQ:=cr (fK (λy=>(#[]:Array ay))) hS rfl
 have up2: ∀c o,s.heap.get? c=aa o->((s.heap.push {cls:=.type "list",data:=.seq #[]}).update s.heap.objs.size (fK (λy=>(#[]:Array ay)))).get? c=aa o:=λc o e=>(df _ _ (lt e)).trans (pk c o e)
 refine ae (wpAny_letGo ?_)
 refine ae (wpAny_typeOf (hzT _ (up2 _ _ hz)) ?_)
 have h1:jk (.ref s.heap.objs.size) (.ref z)=false:=by simp [jk,lt hz]
 have h2:(du "zip"==du "list")=false:=by decide
 have h3:(du "zip"==du "tuple")=false:=by decide
 simp only [h1,h2,h3,iM,a9,if_false]
 refine ae (wpAny_pyIter_zip (up2 _ _ hz) ?_)
 refine ae (bL ?_)
 refine ae (fh (hzT _ (up2 _ _ hz)) HT ?_)
 refine ae (fh (hzT _ (up2 _ _ hz)) Gg ?_)
 refine aj ?_
 show aC _ A.in1.in1 (rule "list.extend.makes-room" >>= λy=>Builtin.List.listTouch (.ref s.heap.objs.size) >>= λy=>
  again (.builtin "list.extend.loop" ⟨[.ref s.heap.objs.size,.ref z,.none],[]⟩)) _ _ _
 refine ae (gJ ?_)
 refine ae ?_
 refine ae (fg WQ rfl ?_)
 have W0:=cr (fK (·.push iJ)) WQ rfl
 refine fg (hz:=by seq_fits) W0 rfl ?_
 have hS₄:=cr (fK (·.pop)) W0 rfl
 have up4: ∀c o,s.heap.get? c=aa o->((((s.heap.push {cls:=.type "list",data:=.seq #[]}).update s.heap.objs.size (fK (λz=>(#[]:Array ay)))).update s.heap.objs.size (fK (·.push iJ))).update s.heap.objs.size (fK (·.pop))).get? c=aa o:=λc o e=>
  (df _ _ (lt e)).trans ((df _ _ (lt e)).trans (up2 c o e))
 refine aj ⟨ju F.plain_extend_loop _,Mx (A:=A.in1) (N:=s.heap.objs.size+1) hh D hsz Vm ⟨lt hz,lt ti,lt Vk,lt e1,lt e2,lt e3,lt e4⟩ ⟨lt' hz,lt' Vk,lt' e1,lt' e2,dw _⟩ (xs.size - 0) 0 _ _ _ rfl (cx _) ?_
  ⟨up4 _ _ ti,⟨a,b,up4 _ _ Vk⟩,it1.at λo e=>up4 _ o e,it2.at λo e=>up4 _ o e,li1.at λo e=>up4 _ o e,li2.at λo e=>up4 _ o e,.inl (up4 _ _ hz)⟩ hS₄ ⟨rfl,λj v h=>by simp at h⟩ λh' Vo c' hk hS5 Vf=> ?_⟩
 ·show s.heap.objs.size+1<=_
  rw [gM,gM,gM,cw]
  exact aN _
 ·exact ⟨rfl,hQ h' Vo c' (λb o b1 b2 b3 b4 e=>hk b o (lt e).symm b1 b2 b3 b4 (up4 b o e)) hS5 Vf⟩
end
section
variable {prog:aH} {w:av} {c:Sc} {σ:mX} {Λ:List (aF×List PV)}
theorem GH: ∀{ps:List PV} {vs:List ay},vs.length=ps.length->(∀(j:Nat) (p:PV) (v:ay),ps[j]? =aa p->vs[j]? =aa v->mP X h p v)->mK X h ps vs
 |[],vs,e,_=>by
  have:vs=[]:=aY.mp e
  subst this;exact mK.nil
 |p::ps,[],e,_=>by cases e
 |p::ps,v::vs,e,k=>mK.cons (k 0 p v rfl rfl) (GH (by simpa using e) λj q u e1 e2=>k (j+1) q u e1 e2)
theorem F3 (hf:Ev prog w (fs c σ Λ) (.Name "list" np) (.raw (.type "list"))) (he:EP prog w (fs c σ Λ) e "zip" [.list ps,.list qs]) (hh:c.A.handled=az) (hsz:ps.length=qs.length) (Vm:ps.length<=100000)
  (UT:autoParam (aE [e] c.env=(false,bJ e c.env)::aE [] c.env) XZ):Ev prog w (fs c σ Λ) (.Call (.Name "list" np) [e] [] pos) (.list (jg (λp q=>.tup [p,q]) ps qs)):=.mk λs i=>by
 have hz0:=aw
 refine cm (ab (hf.run s i) (λv Vw uu=>eA uu λUK WG=> ?_) λz z e=>e)
 subst WG
 have U4:=i.mono (mG UK)
 refine nI (qp (cB (he.run Vw U4 _ λT0 vs T2 r=> ?_) UT) UT)
 refine nh (sN r) λv u T1 r1 r2=> ?_;obtain rfl:=T1
 refine ni (pD r1) λl1 xs T1 hX1 li1 rs1=> ?_;obtain rfl:=T1
 refine ni (pD r2) λl2 ys T1 hX2 li2 rs2=> ?_;obtain rfl:=T1
 have e1:=li1
 have e2:=li2
 refine mR e1 λo1 g1 z=> ?_
 refine mR e2 λo2 g2 z=> ?_
 have lt1: @ky Nat _ l1 T0.heap.objs.size:=aR g1
 have lt2: @ky Nat _ l2 T0.heap.objs.size:=aR g2
 refine call_zip_2 li1 li2 λh' hz Xi Vk hI hI' hs5 hk=> ?_
 refine cF ?_
 refine ⟨uh,?_⟩
 have T4:bB T0 {T0 with heap:=h'}:=⟨h',T0.toks,rfl,hk⟩
 have T9:=U4.mono (mG T2)
 generalize hN:T0.heap.objs.size=N at*
 have D:i4 (N+4) (N+2) (N+3) N (N+1) l1 l2:=⟨pb (by exact my (.o (.b (.a xA xM) (.a xA xK)) (.b (.a xA xK) (.a xA xM))) [_]),pb (by exact my (.o (.b (.a xA xO) (.a xA xK)) (.b (.a xA xK) (.a xA xO))) [_]),pb (by exact my (.o (.b xA (.a xA xK)) (.b (.a xA xK) xA)) [_]),pb (by exact my (.o (.b (.a xA xI) (.a xA xK)) (.b (.a xA xK) (.a xA xI))) [_]),pb (by exact my (.o (.b (.a xA xM) (.a xA xO)) (.b (.a xA xO) (.a xA xM))) [_]),pb (by exact my (.o (.b (.a xA xM) xA) (.b xA (.a xA xM))) [_]),pb (by exact my (.o (.b (.a xA xM) (.a xA xI)) (.b (.a xA xI) (.a xA xM))) [_]),pb (by exact my (.o (.b (.a xA xO) xA) (.b xA (.a xA xO))) [_]),pb (by exact my (.o (.b (.a xA xO) (.a xA xI)) (.b (.a xA xI) (.a xA xO))) [_]),pb (by exact my (.o (.b xA (.a xA xI)) (.b (.a xA xI) xA)) [_]),pb (by exact (my (.i (.b xA xB) (.o (.b xA (.a xB xK)) (.b (.a xB xK) xA))) [_,_]) lt1),pb (by exact (my (.i (.b xA xB) (.o (.b xA (.a xB xO)) (.b (.a xB xO) xA))) [_,_]) lt1),pb (by exact (my (.i (.b xA xB) (.o (.b xA xB) (.b xB xA))) [_,_]) lt1),pb (by exact (my (.i (.b xA xB) (.o (.b xA (.a xB xI)) (.b (.a xB xI) xA))) [_,_]) lt1),pb (by exact (my (.i (.b xA xB) (.o (.b xA (.a xB xK)) (.b (.a xB xK) xA))) [_,_]) lt2),pb (by exact (my (.i (.b xA xB) (.o (.b xA (.a xB xO)) (.b (.a xB xO) xA))) [_,_]) lt2),pb (by exact (my (.i (.b xA xB) (.o (.b xA xB) (.b xB xA))) [_,_]) lt2),pb (by exact (my (.i (.b xA xB) (.o (.b xA (.a xB xI)) (.b (.a xB xI) xA))) [_,_]) lt2)⟩
 have hx:xs.length=ps.length:=rs1.len
 have hy:ys.length=qs.length:=rs2.len
 refine DH hh D (by simp;exact (my (.i (.e xC xD) (.i (.e xA xC) (.i (.e xB xD) (.e xA xB)))) [_,_,_,_]) hsz hx hy) (by simp;exact (my (.i (.l xC (.c 100000)) (.i (.e xB xL) (.i (.e xA xC) (.l xA xB)))) [_,_,_]) Vm hz0 hx) hz Xi ⟨_,_,Vk⟩ hI hI' (li1.at λo e=>hk _ _ e) (li2.at λo e=>hk _ _ e) λWu Ut c' XI hS Vf=> ?_
 have kk:mU T0.heap Wu:=λb o e=>by
  have hb: @ky Nat _ b N:=by exact hN▸(aR e)
  exact XI b o (pb (by exact (my (.i (.b xA xB) (.o (.b xA (.a xB xK)) (.b (.a xB xK) xA))) [_,_]) hb)) (pb (by exact (my (.i (.b xA xB) (.o (.b xA (.a xB xO)) (.b (.a xB xO) xA))) [_,_]) hb)) (pb (by exact (my (.i (.b xA xB) (.o (.b xA xB) (.b xB xA))) [_,_]) hb)) (pb (by exact (my (.i (.b xA xB) (.o (.b xA (.a xB xI)) (.b (.a xB xI) xA))) [_,_]) hb)) (hk b o e)
 refine ⟨mH UK (mH T2 ⟨Wu,T0.toks,rfl,kk⟩),?_⟩
 have nX: ∀b:Nat,N<=b->b∉c.X:=λb hb q=>by
  obtain ⟨o,e⟩:=T9.liveAll _ q
  have: @ky Nat _ b T0.heap.objs.size:=aR e
  exact (my (.i (.e xA xB) (.i (.l xB xC) (.n (.b xC xA)))) [_,_,_]) hN hb this
 have Ue:=Vf.1
 refine uD (vs:=Ut.toList) (nX _ (by exact (my (.i (.e xB (.a xA xN)) (.l xA xB)) [_,_]) hs5)) ⟨_,hS,rfl,c',rfl⟩ (GH (by simp;simp at Ue;exact (my (.i (.e xB xC) (.i (.e xD xB) (.i (.e xA xD) (.e xA (.n xB xC))))) [_,_,_,_]) hsz hx Ue) λj p v e1 e2=> ?_)
 rw [kT] at e1
 refine uB (Vf.2 j v (by simpa using e2)) λT x y T1 hT hxj hyj hp=> ?_;obtain rfl:=T1
 cases h1:ps[j]? with
 |none=>rw [h1] at e1;exact nE e1
 |some p1=>
  cases h2:qs[j]? with
  |none=>rw [h1,h2] at e1;exact nE e1
  |some p2=>
   rw [h1,h2] at e1;obtain rfl:=am e1
   have hT':h'.objs.size+1<=T:=hT
   exact Eg (vs:=[x,y]) (nX _ (by exact (my (.i (.e xC (.a xA xN)) (.i (.l (.a xC xI) xB) (.l xA xB))) [_,_,_]) hs5 hT')) ⟨_,hp,rfl,0,rfl⟩ (mK.cons ((rs1.get' h1 hxj).keep kk) (mK.cons ((rs2.get' h2 hyj).keep kk) mK.nil))
end
section
variable {prog:aH} {w:av} {c:Sc} {σ:mX} {Λ:List (aF×List PV)}
theorem JD (hP:h.get? P=aa (ei vs)):Mv X (P::X) h h:=λa o ha e n=>⟨λhb=>(ao.mp hb).elim (λq=>by rw [q,hP] at e;obtain rfl:=am e;exact n _ rfl) ha,e⟩
noncomputable def Sc.hide (c:Sc) (P:aF):Sc:={c with g:=hideAll c.g [P],own:=P::c.own}
theorem sv (nb:b≠P) (e:h.get? b=aa o):(hideAll h [P]).get? b=aa o:=bS _ e λq=>nb (ak.mp q)
theorem In.hideP (i:In c σ Λ h) (hP:h.get? P=aa (ei vs)) (hn:P∉c.own):In (c.hide P) σ Λ h:=
 i.gen (λb o e=>i.keep b o (bU _ e)) (λa ha=>(ao.mp ha).elim (λq=>dK _ (q▸ .head _)) λq=>ph (i.fresh a q))
  (λa ha=>(ao.mp ha).elim (λq=>⟨_,q▸hP⟩) (i.live a)) i.liveX (.tail _ i.locOwn) (λz n=>n) (λz z z e z=>e) (JD hP) (i.li (λz h=>.tail _ h) (λz z z z e=>e) (JD hP))
theorem In.slots (i:In c σ Λ h) (k: ∀b o,b≠c.env.locals->h.get? b=aa o->h'.get? b=aa o) (u:h.UpToSlots h'):In c σ Λ h':=by
 obtain ⟨m,n,hm⟩:=i.loc
 have kX:Mv c.X c.X h h':=λb o nb e z=>⟨nb,k b o (λq=>nb (q▸ax _ i.locOwn)) e⟩
 have lv: ∀a,(∃o,h.get? a=aa o)-> ∃o,h'.get? a=aa o:=λa uu=>eE uu λo e=>(gy (a=c.env.locals)).elim (λq=>by
  subst q;refine wD (u.ns n) λo z z e z=> ?_;exact ⟨o,e⟩) λq=>⟨o,k _ _ q e⟩
 exact i.gen (λb o e=>k b o (λq=>nomatch (i.fresh _ (q▸i.locOwn)).symm.trans e) (i.keep b o e)) i.fresh (λa ha=>lv a (i.live a ha)) (λa ha=>lv a (i.liveX a ha)) i.locOwn (λm n=>u.ns n)
  (λb o q e z=>k b o q e) kX (i.li (λz h=>h) (λb o q z e=>k b o q e) kX)
end
end
section
open PySem.Calls PyProof.Rows PySem.Builtin.Str
section
variable {w:av} {c:Sc} {σ:mX} {Λ:List (aF×List PV)}
theorem CH (G:Gd w 3 c) (ho:tJ mu w (fs c σ Λ) o (r5 l c.X)) (hl:D7 l) (hx:autoParam (c.env.kindOf "str"=aa .globalImplicit) XZ)
  (UT:autoParam (aE [o] c.env=(false,bJ o c.env)::aE [] c.env) XZ):Ev mu w (fs c σ Λ) (.Call (.Name "str" np) [o] [] pos) (.str (S (oy l))):=.mk λs i=>by
 refine cm (ab ((rU G (v:=.type "str") (by kernel_rfl) (by kernel_rfl) (by decide+kernel) hx).run s i) (λv T0 uu=>eA uu λT2 T5=> ?_) λz z e=>e)
 subst T5
 have T9:=i.mono (mG T2)
 refine nI (qp (cB (ab (ho.run T0 T9) (λv T3 uu=>oV uu λT4 a e hH=> ?_) λz z e=>e) UT) UT)
 subst e
 have T7:=T9.mono (mG T4)
 refine cF ⟨uh,?_⟩
 refine rN hH.at' λd D t=> ?_
 refine tF (vN t) λWU I e1 e2=> ?_
 have r2:pt 2 c.A.in1:=G.room.in1
 have r1:pt 1 c.A.in1.in1:=r2.in1
 refine kso_call (K:=KB w.params) (f:=269) (by have:=r1.2.2;exact (my (.i (.b (.a (.a xA (.m 10 xI)) xP) xB) (.b xA xB)) [_,_]) this) (G.inBase _ T7).frag I (by kernel_rfl) (by kernel_rfl) ?_
 refine ab (Kh hl c.A.in1.in1 c.X (λh=>In c σ Λ h/\r5 l c.X h a) a r1 (λh i=>G.inBase h i.1) (G.offX T7) (λh i=>i.2) T3 [.ref a] [] ⟨T7,hH⟩ T7.liveAll (mK.cons o9 mK.nil) mK.nil) (λv Ua uu=>eA uu λUc Uj=> ?_) λz z e=>e
 refine eE (nt Uj) λtk T1=> ?_;obtain rfl:=T1
 exact ⟨mH T2 (mH T4 Uc),oh⟩
end
section
variable {w:av} {c:Sc} {σ:mX} {Λ:List (aF×List PV)}
theorem In.turnP {h h':aW} (i:In c σ Λ h) (ho:P∈c.own) (hP:h.get? P=aa (ei ps)) (hP':h'.get? P=aa (ei ps')) (k: ∀b o,b≠P->h.get? b=aa o->h'.get? b=aa o):In c σ Λ h':=by
 have kX:Mv c.X c.X h h':=λb o nb e z=>⟨nb,k b o (λq=>nb (q▸ax _ ho)) e⟩
 have lv: ∀a,(∃o,h.get? a=aa o)-> ∃o,h'.get? a=aa o:=λa uu=>eE uu λo e=>(gy (a=P)).elim (λq=>⟨_,q▸hP'⟩) λq=>⟨o,k _ _ q e⟩
 have nd: ∀{a:aF} {o:Obj},h.get? a=aa o->(∀vs,o.data≠ .fields vs)->h'.get? a=aa o:=λe n=>k _ _ (λq=>by
  subst q;rw [hP] at e;obtain rfl:=am e;exact n _ rfl) e
 exact i.gen (λb o e=>k b o (λq=>nomatch (i.fresh _ (q▸ho)).symm.trans e) (i.keep b o e)) i.fresh (λa ha=>lv a (i.live a ha)) (λa ha=>lv a (i.liveX a ha)) i.locOwn
  (λm n=>let ⟨o,es,ep,e,d,r⟩:=n;⟨o,es,ep,nd e (λz q=>nomatch d.symm.trans q),d,r⟩) (λb o z e q2=>nd e λz q=>eE q2 λz q2=>nomatch q2.symm.trans q) kX
  (λq hq=>let ⟨a,us,⟨n,e⟩,r⟩:=i.lists q hq;⟨a,us,⟨n,nd e λz q=>nomatch q⟩,r.gen kX⟩)
end
def Bm (h:aW):Prop:= ∃o,h.get? 4=aa o/\o.cls= .type "module"/\o.dict=aa dh/\o.data= .plain
theorem N8 (b:oi P h):CodeHd h 332 330:=
 ⟨_,_,_,_,_,_,_,_,_,b.frag 332 (Fe M6) (by kernel_rfl),rfl,rfl,rfl,rfl,rfl,rfl,rfl,rfl,by decide⟩
section
variable {w:av} {A:aX} {g:aW} {L D:aF} {σ:mX} {Λ:List (aF×List PV)}
abbrev cW (A:aX) (g:aW) (L D:aF):Sc:=((mV pC 333 A [] [] g L).addOwn D).hide 330
noncomputable abbrev EV (scope:Scope) (L f c':aF) (clos:List (Str×aF)) (c:Sc):Env:=envX (c.env.qual++"<lambda>") scope L f (.ref c') clos
theorem FA (hA:A.frames=aa []) (G:Gd w 5 (cW A g L D)) (Xv:Bm (cW A g L D).g)
  (i:In (cW A g L D) σ Λ s.heap) (hP:s.heap.get? 330=aa (ei ps)) (ht:TriplesOk ps.toList) (hnf:codeAmong lpos ps.toList=az)
  (hdef:defaultsOf params (cW A g L D).env=([],[])) (UW:gK scope (cW A g L D).env=bG clos)
  (Ul: ∀pm c' Wd,ey (kla_fn "<lambda>" ((cW A g L D).env.qual++"<lambda>") params body scope clos pm (.ref c') Wd) ⟨[],[]⟩=bG []) (Wl: ∀x∈scope.names,x.2≠ .cell) (Xs:vB (cW A g L D).env.cells clos)
  (hσ: ∀x p,σf.lookup x=aa p->scope.names.lookup x=aa .free/\(x==("__classdict__":Str))=false/\(clos.lookup x).isSome=ai/\σ.lookup x=aa p/\(cW A g L D).env.kindOf x=aa .cell)
  (hbody: ∀(base:aW) (outer:List Env) (A':aX) (g':aW) (L' f c':aF),Gd w 3 ⟨EV scope L' f c' clos (cW A g L D),A',g',[L'],[]⟩->sK ⟨EV scope L' f c' clos (cW A g L D),A',g',[L'],[]⟩ base outer->KJ mu w ⟨EV scope L' f c' clos (cW A g L D),A',g',[L'],[]⟩ σf [] base outer m body)
  (hco:autoParam (scope.isCoroutine=false) XZ) (Xx:autoParam (scope.isGenerator=false) XZ) (hk:autoParam (scope.kind= .function) XZ)
  (UT:autoParam (aE [.Lambda params body scope lpos] (cW A g L D).env=(false,bJ (.Lambda params body scope lpos) (cW A g L D).env)::aE [] (cW A g L D).env) XZ):
  aC (aI mu w) (cW A g L D).A (bJ (.Call (.Name "_law_refused" np) [.Lambda params body scope lpos] [] pos) (cW A g L D).env)
   (λv s'=>nB s s'/\In (cW A g L D) σ Λ s'.heap/\(∃tk,v= .str m tk)/\ ∃c2:aF,s'.heap.get? 330=aa (ei (ps++ #[eQ lpos.line,eQ lpos.col,.ref c2]))) (λz z=>False) s:=by
 refine cm (ab ((ud G (v:=.ref 328) (by kernel_rfl) (by rfl)).run s i) (λv T0 uu=>eA uu λT2 T5=> ?_) λz z e=>e)
 subst T5
 have T9:=i.mono (mG T2)
 have hP1:=mG T2 _ _ hP
 have Ws:=G.inBase _ T9
 obtain ⟨mg,nmg,emg⟩:BH T0.heap "__builtins__" (.ref 4):=Ws.glob (by kernel_rfl)
 refine RG Xv λob b1 b2 b3 b4=> ?_
 refine nI (qp (cB (kla_eval hdef (kla_makeFunction (c:=332) (P:=330) (mg:=mg) UW rfl nmg rfl (N8 Ws) hP1 ht hnf (by decide) ⟨4,ob,emg,by decide,by decide,by decide,T9.keep _ _ b1,b2,b3,b4⟩ λc' Wd h' tk hx hge Un hrec WA=> ?_)) UT) UT)
 refine cF ?_
 have np: ∀b o,b≠330->T0.heap.get? b=aa o->(h'.push (jc "<lambda>" ((cW A g L D).env.qual++"<lambda>") params body scope clos ((mg "__name__").getD .none) c' Wd)).get? b=aa o:=λb o nb e=>aO _ (hx b o nb e)
 have T7:=T9.turnP (.head _) hP1 (aO (jc "<lambda>" ((cW A g L D).env.qual++"<lambda>") params body scope clos ((mg "__name__").getD .none) c' Wd) WA) np
 have hf:(h'.push (jc "<lambda>" ((cW A g L D).env.qual++"<lambda>") params body scope clos ((mg "__name__").getD .none) c' Wd)).get? h'.objs.size=aa (jc "<lambda>" ((cW A g L D).env.qual++"<lambda>") params body scope clos ((mg "__name__").getD .none) c' Wd):=au _ rfl
 have hcr:(h'.push (jc "<lambda>" ((cW A g L D).env.qual++"<lambda>") params body scope clos ((mg "__name__").getD .none) c' Wd)).CodeRec (.ref c') ((cW A g L D).env.qual++"<lambda>"):=hrec.keeps λb o e=>aO _ e
 have hP2:(h'.push (jc "<lambda>" ((cW A g L D).env.qual++"<lambda>") params body scope clos ((mg "__name__").getD .none) c' Wd)).get? 330=_:=aO _ WA
 generalize h'.push (jc "<lambda>" ((cW A g L D).env.qual++"<lambda>") params body scope clos ((mg "__name__").getD .none) c' Wd)=H at*
 generalize h'.objs.size=f at*
 have W6:=G.inBase H T7
 refine ⟨rB (fd:=qA) (W6.frag 328 (fo qA) (by kernel_rfl)) rfl,?_⟩
 refine mR T7.loc λmL nL z=> ?_
 have nL:H.Ns L mL:=nL
 have hb0:mU (cW A g L D).g (hideAll H [L]):=λb o e=>sv (λq=>by
  have:=T7.fresh L (.tail _ (.tail _ (.head _)))
  rw [q,this] at e;exact nE e) (T7.keep b o e)
 have Bw:j4 (cW A g L D).A (hideAll H [L]) [(cW A g L D).env] H:=⟨fH hA,λb o e=>bU _ e,.cons (by show pC.scope.kind≠ .module;decide+kernel) rfl nL (dK _ (.head _)) trivial⟩
 have rr:pt 5 (cW A g L D).A:=G.room
 refine ab (FQ (base:=hideAll H [L]) (outer:=[(cW A g L D).env]) (m:=m) (X:=[]) (rr.less (by exact my (.l xI xN) [] [])) W6 (G.base.keep hb0) (λz h=>nomatch h) Bw ⟨_,_,hf,rfl⟩ λenv s' ks bw=> ?_) (λv Ua uu=>Ck uu λVY st3 u₃ hv=> ?_) λz z e=>e
 ·have rd:pt 4 ((cW A g L D).A.deeper env):=rr.deeper env
  have Bs:oi w.params s'.heap:=W6.keep ks
  have VC: ∀x b,clos.lookup x=aa b->(cW A g L D).env.cells.lookup x=aa b:=λx b e=>vB.mem Xs (x,b) (mem_of_lookup e)
  refine Ji (X:=[]) (σ:=σf) rd.lim Bs.lim (λz h=>nomatch h) (ks _ _ hf) (hcr.keeps ks) (Ul _ _ _) Wl (λx p e=> ?_) (λx b e=> ?_) bw (λL' b=> ?_) hco Xx hk
  ·refine Nx (hσ x p e) λe1 e2 e3 e4 e5=> ?_
   refine eE (jP.mp e3) λb e6=> ?_
   refine nh (T7.cel x p (.inl e5) e4) λb' v q1 q2 q3=> ?_
   have:b'=b:=by rw [VC x b e6] at q1;exact (am q1).symm
   subst this
   exact ⟨e1,e2,b',v,e6,q2.keeps ks,(q3.sub (Y:=[]) λz h=>nomatch h).keep ks⟩
  ·obtain ⟨v,q⟩:=T7.cob x b (VC x b e)
   exact ⟨v,q.keeps ks⟩
  ·exact hbody _ _ _ _ _ _ _ ⟨Bs,(λz h=>nomatch h),rd.deeper _,hk,rfl,rfl⟩ b
 ·have nl: ∀b o,b≠L->H.get? b=aa o->Ua.heap.get? b=aa o:=λb o nb e=>st3 b o (sv nb e)
  have Ui:=T7.slots (h':=Ua.heap) nl u₃
  refine oU T2 ?_;clear T2;intro Ub Vb T1 _;obtain rfl:=T1
  refine rN VY ?_;clear VY;intro Uo Vy T1;obtain rfl:=T1
  refine ⟨⟨_,_,rfl⟩,Ui,hv,c',nl 330 _ (λq=> ?_) hP2⟩
  obtain ⟨o,es,ep,e1,e2,_⟩:=nL
  rw [<-q,hP2] at e1;obtain rfl:=am e1;cases e2
end
def nA:List eh:=nW (nM 50)
theorem oi.hideP (b:oi P h) (hP:h.get? 330=aa (ei ps)):oi P (hideAll h [330]):=by
 have hn:(KB P).lookup 330=az:=by kernel_rfl
 refine ⟨λd o e=>sv (λq=>by rw [q,hn] at e;exact nE e) (b.frag d o e),b.lim.at λo e=>sv (by decide) e,?_⟩
 refine mR b.blt λmb n r=> ?_
 exact ⟨mb,n.at' λo e=>sv (by decide) e,r⟩
theorem Ox: ∃c∈oy l,vc c=ai:=by
 refine ⟨10,?_,by decide+kernel⟩
 rw [vH]
 simp
theorem By {x y:Str} {p q:PV} (e:aD x [(y,p)]=aa q):x=y/\q=p:=by
 by_cases h:x=y
 ·subst h;simp [aD] at e;exact ⟨rfl,e.symm⟩
 ·have:(x==y)=false:=by simpa using h
  simp [aD,this] at e
theorem IV {x y z:Str} {p q r:PV} (e:aD x [(y,p),(z,r)]=aa q):(x=y/\q=p)\/(x=z/\q=r):=by
 by_cases h:x=y
 ·subst h;simp [aD] at e;exact .inl ⟨rfl,e.symm⟩
 ·have:(x==y)=false:=by simpa using h
  rw [aD,this] at e
  exact .inr (By e)
section
variable {w:av} {A:aX} {g:aW} {L D:aF} {σ:mX} {Λ:List (aF×List PV)}
abbrev cV (A:aX) (g:aW) (L D:aF):Sc:=(mV pC 333 A [] [] g L).addOwn D
theorem S4:((mV pC 333 A [] [] g L).addOwn D).at g'=cV A g' L D:=rfl
theorem In.unhide {c:Sc} (i:In (c.hide P) σ Λ h) (hn:P∉c.own) (hP:h.get? P=aa (ei vs)) (hl:c.env.locals∈c.own):In (c.at (hideAll h c.own)) σ Λ h:=
 have kX:Mv (c.hide P).X c.X h h:=λb o nb e z=>⟨λq=>nb (.tail _ q),e⟩
 i.gen (λb o e=>bU _ e) (λa ha=>dK _ ha) (λa ha=>i.live a (.tail _ ha)) i.liveX hl (λz n=>n) (λz z z e z=>e) kX
  λq hq=>let ⟨a,us,b,r⟩:=i.lists q hq;⟨(ao.mp a).elim (λe=>by
   obtain ⟨_,e2⟩:=b
   rw [e,hP] at e2;cases e2) id,us,b,r.gen kX⟩
theorem Gd.hideP (G:Gd w n c) (hP:c.g.get? 330=aa (ei ps)):Gd w n (c.hide 330):=⟨G.base.hideP hP,G.off,G.room,G.fn,G.gl,G.bl⟩
set_option maxHeartbeats 1000000 in
theorem Kp (hA:A.frames=aa []) (G:Gd w 5 ((mV pC 333 A [] [] g L).addOwn D)) (Xv:Bm g) (hT:g.get? 330=aa (ei #[])) (hD:D≠330)
  (hb:aD ("book":Str) σ=aa (PV.hdr (hp l))) (hl:D7 l) (Ue:(oy l).length<=1000) (hs:aD ("struck":Str) σ=aa (PV.inst D))
  (hrest: ∀g',mU (hideAll g [330]) g'->(∃ps,g'.get? 330=aa (ei ps))->Gd w 5 (cV A g' L D)->mT mu w (cV A g' L D).env (cV A g' L D).A (In (cV A g' L D) (("words",.list [.str yi,.str w2])::σ) Λ) rest J):
  mT mu w ((mV pC 333 A [] [] g L).addOwn D).env ((mV pC 333 A [] [] g L).addOwn D).A (In ((mV pC 333 A [] [] g L).addOwn D) σ Λ) (nj nA 11::rest) J:=.mk λs i=>by
 have GW:Gd w 5 (cW A g L D):=G.hideP (c:=(mV pC 333 A [] [] g L).addOwn D) hT
 have hbm':Bm (cW A g L D).g:=let ⟨o,e,r⟩:=Xv;⟨o,sv (by decide) e,r⟩
 have hn:(330:aF)∉((mV pC 333 A [] [] g L).addOwn D).own:=λq=>by
  rcases ao.mp q with q|q
  ·exact hD q.symm
  ·have h0:=i.fresh 330 (.tail _ q)
   have h0:g.get? 330=az:=h0
   rw [hT] at h0;exact tD h0
 have iW:In (cW A g L D) σ Λ s.heap:=i.hideP (i.keep _ _ hT) hn
 have hP:=i.keep _ _ hT
 clear i
 rw [ci]
 refine ae (cN (jB (cB ?_ (by rfl))) (by rfl))
 refine ab (FA (m:=yi) (ps:= #[]) (clos:=[("book",L+10)]) (σf:=[("book",.hdr (hp l))]) hA GW hbm' iW hP trivial ?h1 ?h2 ?h3 ?h4 ?h5 ?h6 ?h7 ?h8 ?h9 ?h10 ?h11 ?h12) (λv₁ T0 uu=>Nt uu λx₁ T9 hv1 c2 hP1=> ?_) λz z e=>e
 case h1=>rfl
 case h2=>rfl
 case h3=>rfl
 case h4=>exact λz z z=>rfl
 case h5=>decide
 case h6=>exact ⟨by rfl,trivial⟩
 case h7=>
  intro x p e
  rcases By e with ⟨rfl,rfl⟩
  exact ⟨rfl,by decide+kernel,rfl,hb,rfl⟩
 case h8=>
  intro base outer A' g' L' f c' G' B'
  refine Lb B' (ps:=[.str (S (oy l)),.int 3]) (ud G' (v:=.ref 89) (by kernel_rfl)) (mz (CH G' (ty (nw (by walk_at "lk"))) hl) (mz mN mI)) (λs i=>rB ((G'.inBase _ i).frag _ _ (B5 _).e) rfl) ?_
  intro s vs us i lx r _ bw
  refine nh (sN r) λv u T1 rv ru=> ?_;obtain rfl:=T1
  exact F5 (G'.room.less (by exact my (.l xM xO) [] [])) (G'.inBase _ i) (G'.offX i) lx rv ru bw
 case h9=>rfl
 case h10=>rfl
 case h11=>rfl
 case h12=>rfl
 refine cB ?_ (by rfl)
 refine ab (FA (m:=w2) (clos:=[("struck",L+11),("book",L+10)]) (σf:=[("struck",.inst D),("book",.hdr (hp l))]) hA GW hbm' T9 hP1 trivial ?k1 ?k2 ?k3 ?k4 ?k5 ?k6 ?k7 ?k8 ?k9 ?k10 ?k11 ?k12) (λv₂ T3 uu=>Nt uu λx₂ T7 hv2 z hP2=> ?_) λz z e=>e
 case k1=>rfl
 case k2=>rfl
 case k3=>rfl
 case k4=>exact λz z z=>rfl
 case k5=>decide
 case k6=>exact ⟨by rfl,by rfl,trivial⟩
 case k7=>
  intro x p e
  rcases IV e with ⟨rfl,rfl⟩|⟨rfl,rfl⟩
  ·exact ⟨rfl,by decide+kernel,rfl,hs,rfl⟩
  ·exact ⟨rfl,by decide+kernel,rfl,hb,rfl⟩
 case k8=>
  intro base outer A' g' L' f c' G' B'
  refine Ko (ps:=[.str (S [97,108,108]),.str (S (oy l))]) (ks:=[]) (H:=λh a=> ∃d D,oO h a d D) G' B' ?ho (λz z t=>t) (λz z z uu k=>rN uu λd D t=>⟨d,D,t.keep k⟩) (by kernel_rfl) (DR _).e (by kernel_rfl) (by kernel_rfl)
   (mz (m6 (by kernel_rfl)) (mz (CH G' (ty (nw (by walk_at "lk"))) hl) mI)) yq ?_
  case ho=>
   refine .mk λs i=>ab ((nw (p:=.inst D) (by walk_at "lk")).run s i) (λv T0 uu=>eA uu λT2 T5=> ?_) λz z e=>e
   refine ni T5 ?_;clear T5;intro a d T1 _ _ t;obtain rfl:=T1
   exact ⟨T2,a,rfl,d,D,t⟩
  ·intro a s vs us i lx r ru bw
   refine rZ (zS r) λx v u T1 rx rv ru'=> ?_;obtain rfl:=T1
   subst rx
   refine rN i.2 λd D' t=> ?_
   have hu:us=[]:=by simpa using ru.len
   subst hu
   exact Jm (G'.room) (G'.inBase _ i.1) lx (G'.offX i.1) t rv ru' Ue Ox bw
 case k9=>rfl
 case k10=>rfl
 case k11=>rfl
 case k12=>rfl
 refine cF ?_
 refine ⟨by show 2<=bn;decide,?_⟩
 refine eE hv1 ?_;clear hv1;intro Vb T1;obtain rfl:=T1
 refine eE hv2 ?_;clear hv2;intro Vn T1;obtain rfl:=T1
 have kp:=mZ T3 {cls:=.type "list",data:=.seq ([.str yi Vb,.str w2 Vn]:List ay).toArray} T3.toks
 have Ui:=T7.mono (mG kp)
 have hP3:=mG kp _ _ hP2
 have Vj:n7 (cV A g L D).X T3.heap:=λa ha=>T7.liveAll a (.tail _ ha)
 have WB:=In.unhide (c:=(mV pC 333 A [] [] g L).addOwn D) Ui (λq=>hn q) hP3 (.tail _ (.head _))
 rw [S4] at WB
 generalize hH:T3.heap.push {cls:=.type "list",data:=.seq ([.str yi Vb,.str w2 Vn]:List ay).toArray}=H at Ui hP3 WB
 have hk:mU (hideAll g [330]) (hideAll H ((mV pC 333 A [] [] g L).addOwn D).own):=λb o e=>bS _ (Ui.keep b o e) λq=>by
  have q2:=Ui.fresh b (.tail _ q)
  have e2:(cW A g L D).g.get? b=aa o:=e
  rw [q2] at e2;exact nE e2
 have hK2: ∃ps,(hideAll H ((mV pC 333 A [] [] g L).addOwn D).own).get? 330=aa (ei ps):=⟨_,bS _ hP3 λq=>hn q⟩
 generalize hideAll H ((mV pC 333 A [] [] g L).addOwn D).own=G2 at WB hk hK2
 have GV:Gd w 5 (cV A G2 L D):=⟨GW.base.keep hk,G.off,G.room,G.fn,G.gl,G.bl⟩
 have rl:mP (cV A G2 L D).X H (.list [.str yi,.str w2]) (.ref T3.heap.objs.size):=by
  subst hH
  exact uD (oP Vj) ⟨_,au _ rfl,rfl,_,rfl⟩ (mK.cons oh (mK.cons oh mK.nil))
 subst hH
 refine ab (tY (c:=cV A G2 L D) (p:=.list [.str yi,.str w2]) WB (.inl rfl) rl rfl) (λz Um uu=>eA uu λVB UV=> ?_) λz z e=>e
 exact ab ((hrest _ hk hK2 GV).run Um UV) (λfl UH uu=>eA uu λW7 j=>⟨((x₁.trans x₂).trans ((nB.of kp).trans VB)).trans W7,j⟩) λz z e=>e
end
noncomputable def Be:List (Nat×Int):=[(0,18709805),(1,5),(2,257),(3,16387),(4,12648578)]
noncomputable def BQ (ns:List Int) (q:Nat×Int):Int:=q.2+((i5 ns (aa (q.1:Int)) (aa 60) (aa 5)).map λx=>x.fmod 1000000000000).sum
section
variable {w:av} {A:aX} {g:aW} {L:aF} {σ:mX} {Λ:List (aF×List PV)}
abbrev c1 (A:aX) (g:aW) (L:aF):Sc:=mV pC 333 A [] [] g L
theorem AM (hk:pC.scope.names.lookup x=aa .cell) (hb:(bu (L+1) pC.scope.names []).lookup x=aa b):sA (c1 A g L) x:=.inr ⟨b,uY rfl hk hb⟩
theorem MR (ns:List Int) (lo hi st:Option Int):(i5 ns lo hi st).length<=ns.length:=by
 have h:=slicePick_size_le ((ns.map λn=>ay.int n 0).toArray) lo hi st
 have i:IntsAre (ns.map λn=>ay.int n 0) ns:=by
  clear h
  induction ns with
  |nil=>exact .nil
  |cons n ns ih=>exact .cons n 0 ih
 have j:=IntsAre.pick i lo hi st
 have:=j.length
 simp at h this
 exact (my (.i (.e xC xA) (.i (.l xC xB) (.l xA xB))) [_,_,_]) this h
set_option maxHeartbeats 1000000 in
theorem MB (G:Gd w 5 (c1 A g L)) (hn:ns.length<=63) (hs:aD ("script":Str) σ=aa (PV.list (ns.map PV.int)))
  (hb:mT mu w (c1 A g L).env (c1 A g L).A (In (c1 A g L) (("cells",.list ((Be.map (BQ ns)).map PV.int))::σ) Λ) b J):mT mu w (c1 A g L).env (c1 A g L).A (In (c1 A g L) σ Λ) (nj nA 0::b) J:=by
 have hz:=aw
 refine mM (p:=.list ((Be.map (BQ ns)).map PV.int)) (.mk λs i=>Ev.run (mQ (pG (l:=Be) (V:=λq:Nat×Int=>.tup [.int (q.1:Int),.int q.2]) (bs:=λq=>[("start",.int q.2),("k",.int (q.1:Int))]) (cl:=[("script",L+1)]) [("script",.list (ns.map PV.int))] (λz=>ai) (λq=>.int (BQ ns q))
  ?h1 ?h2 ?h3 ?h4 ?h5 ?h6 ?h7 ?h8 ?h9 ?h10 ?h11) ?h12) s i) hb (AM (by rfl) (by rfl))
 case h1=>exact Jz (s9 (rU G (by kernel_rfl) (by kernel_rfl)) (mz (ou (ps:=[.int 18709805,.int 5,.int 257,.int 16387,.int 12648578]) (mz mN (mz mN (mz mN (mz mN (mz mN mI))))) (by simp;exact (my (.i (.e xA xL) (.l xN xA)) [_]) hz)) mI)) G.room.1 (λz h=>nomatch h)
 case h2=>exact n5 nJ hs (.inl rfl) (λz=>rfl) (λz=>.inl rfl)
 case h3=>exact λq C g' T6 z=>qS G.room.1
 case h4=>exact λq C g' T6 z z z=>og
 case h5=>
  intro q C g' T6 hq _ k hf
  have hO:=G.offX i
  have G1:=Gd.comp G hO k hf rfl
  have hl:=MR ns (aa (q.1:Int)) (aa 60) (aa 5)
  refine mJ (p:=.int q.2) (q:=.int (((i5 ns (aa (q.1:Int)) (aa 60) (aa 5)).map λx=>x.fmod 1000000000000).sum)) ?_ ?_ nV
  ·walk_at "ev"
  refine n9 G1 (ps:=[.list (((i5 ns (aa (q.1:Int)) (aa 60) (aa 5)).map λx=>x.fmod 1000000000000).map PV.int)]) (by kernel_rfl) (by kernel_rfl) (mz ?_ mI) (Oo G.room.1)
  refine mQ (pG (l:=i5 ns (aa (q.1:Int)) (aa 60) (aa 5)) (V:=PV.int) (bs:=λx=>[("x",.int x)]) (cl:=[]) [] (λz=>ai) (λx=>.int (x.fmod 1000000000000)) ?k1 nJ (λz z z z z=>nO) (λz z z z z z z=>og) ?k5 (by exact (my (.i (.l xC (.c 63)) (.i (.e xB xL) (.i (.l xA xC) (.l xA xB)))) [_,_,_]) hn hz hl) (λz z=>rfl) (by rfl) trivial (by rfl) (by decide+kernel)) ?k12
  case k1=>
   refine qF (Cy (k:=5) ?_ (nY ?_) (nY mN) (nY mN) (by decide) (by exact (my (.i (.l xA (.c 63)) (.i (.e xB xL) (.l xA xB))) [_,_]) hn hz)) G.room.1 (.inl ⟨_,_,rfl⟩) (λz h=>nomatch h)
   ·walk_at "ev"
   ·walk_at "ev"
  case k5=>
   intro x C2 g2 more2 _ _ _ _
   refine mJ (p:=.int x) (q:=.int 1000000000000) ?_ mN (oq (by decide))
   walk_at "ev"
  case k12=>rw [bW.mpr (λz z=>rfl),aB];rfl
 case h6=>decide
 case h7=>exact λz z=>by kernel_rfl
 case h8=>rfl
 case h9=>exact ⟨by rfl,trivial⟩
 case h10=>rfl
 case h11=>decide+kernel
 case h12=>rw [bW.mpr (λz z=>rfl),aB];rfl
end
end
section
end
section
open PySem.Calls PyProof.Rows PySem.Builtin.Str
noncomputable def BN (c0:Int) (k:Nat):Int:=1+(c0.fdiv ((5:Int)^k)).fmod 5
def FI (c0:Int):List Int:=sortI ((ag 4).map (BN c0))
noncomputable def w9 (v:Int) (i:Nat):Int:=(v.fdiv ((128:Int)^i)).fmod 128
def wY (cs sz:List Int) (n:Nat):List Int:=(ag (sz[n]?.getD 0).toNat).map (w9 (cs[n+1]?.getD 0))
section
variable {w:av} {A:aX} {g:aW} {L:aF} {σ:mX} {Λ:List (aF×List PV)}
theorem wd {α:Type} {l:List α}:l.filter (λz=>ai)=l:=bW.mpr (λz z=>rfl)
theorem Kf {b k:Nat} (hb:b<=128) (hk:k<=8):(eu (b:Int):Int)*(k:Int)<=2^27:=by
 have h: ∀b≤128,eu ((b:Nat):Int)<=16:=by decide+kernel
 have:=h b hb
 have h2:(eu (b:Int):Int)<=16:=by exact_mod_cast this
 have h3:(k:Int)<=8:=by exact (my (.i (.l xA (.c 8)) (.L (.k xA) (.c 8))) [_]) hk
 have h4:(eu (b:Int):Int)*(k:Int)<=16*8:=Int.mul_le_mul h2 h3 (by exact my (.L xJ (.k xA)) [_]) (by exact my (.L xJ (.c 16)) [] [])
 omega
theorem pW (G:Gd w 0 c) {n:Nat} (hv:Ev mu w (fs c σ Λ) e (.int n)) (hn:n<=1000) (hx:c.env.kindOf "range"=aa .globalImplicit)
  (he:autoParam (aE [e] c.env=(false,bJ e c.env)::aE [] c.env) XZ):uy mu w c σ Λ own (.Name x px) (.Call (.Name "range" np) [e] [] pos) ((ag n).map λ(i:Nat)=>.int ((0:Int)+i)):=
 yZ (a:=0) (b:=n) (Dk (s9 (rU G (by kernel_rfl) (by kernel_rfl) (by decide+kernel) hx) (mz hv mI he) he)) (by rw [lq];split<;>(first|exact (my (.i (.n (.B xJ (.k xA))) (.E xJ (.k xA))) [_]) (by assumption)|exact my (.E (.s (.k xA) xJ) (.k xA)) [_])) (AL (by exact my (.L xJ xJ) [] []) (by exact my (.L xJ (.c 1000000)) [] []) (by exact my (.L xJ (.k xA)) [_]) (by exact (my (.i (.l xA xQ) (.L (.k xA) (.c 1000000))) [_]) hn)) G.room.1
theorem Gd.zero (G:Gd w n c):Gd w 0 c:=⟨G.base,G.off,G.room.less (cx _),G.fn,G.gl,G.bl⟩
theorem vA {b k:Nat} (hb:b<=128) (hk:k<=8):n0 mu w A X (cf .Pow) (.int b) (.int ((0:Int)+k)) (.int ((b:Int)^k)):=by
 have:=HM (prog:=mu) (w:=w) (A:=A) (X:=X) (a:=b) (n:=(0:Int)+k) (by exact my (.L xJ (.a xJ (.k xA))) [_]) (by rw [fv];exact Kf hb hk)
 rw [show ((0:Int)+k).toNat=k by exact my (.e (.t (.a xJ (.k xA))) xA) [_]] at this
 exact this
theorem Bp {b k:Nat} (hb:0<b):((b:Int)^k)≠0:=Int.pow_ne_zero (by exact (my (.i (.b xJ xA) (.n (.E (.k xA) xJ))) [_]) hb)
theorem SQ: ∀k<4,((5:Int)^k).natAbs<1073741824:=by decide+kernel
set_option maxHeartbeats 1000000 in
theorem L6 (G:Gd w 5 (c1 A g L)) {cs:List Int} (h0:cs[0]? =aa c0) (hs:aD ("cells":Str) σ=aa (PV.list (cs.map PV.int)))
  (hb:mT mu w (c1 A g L).env (c1 A g L).A (In (c1 A g L) (("sizes",.list ((FI c0).map PV.int))::σ) Λ) b J):mT mu w (c1 A g L).env (c1 A g L).A (In (c1 A g L) σ Λ) (nj nA 1::b) J:=by
 have hz:=aw
 refine mM (p:=.list ((FI c0).map PV.int)) (n9 G (ps:=[.list (((ag 4).map (BN c0)).map PV.int)]) (by kernel_rfl) (by kernel_rfl) (mz (.mk λs i=>Ev.run (mQ (pG (l:=ag 4) (V:=λk:Nat=>.int ((0:Int)+k)) (bs:=λk=>[("k",.int ((0:Int)+k))]) (cl:=[("cells",L+2)]) [("cells",.list (cs.map PV.int))] (λz=>ai) (λk=>.int (BN c0 k))
  ?h1 ?h2 ?h3 ?h4 ?h5 ?h6 ?h7 ?h8 ?h9 ?h10 ?h11) ?h12) s i) mI) (HE (by simp))) hb (AM (by rfl) (by rfl))
 case h1=>exact pW G.zero (n:=4) mN (by exact my (.l xK xQ) [] []) (by rfl)
 case h2=>exact n5 nJ hs (.inl rfl) (λz=>rfl) (λz=>.inl rfl)
 case h3=>exact λq C g' T6 z=>nO
 case h4=>exact λq C g' T6 z z z=>og
 case h5=>
  intro k C g' T6 hk _ _ _
  have hk:=aL.mp hk
  refine mJ (p:=.int 1) (q:=.int ((c0.fdiv ((5:Int)^k)).fmod 5)) mN (mJ (p:=.int (c0.fdiv ((5:Int)^k))) (q:=.int 5) (mJ (p:=.int c0) (q:=.int ((5:Int)^k)) (nq (p:=.list (cs.map PV.int)) (q:=.int 0) ?_ mN (m5 (by exact my (.L xJ xJ) [] []) (by show (cs.map PV.int)[0]? =_;rw [a7,h0];rfl) (by exact my (.B xJ xS) []))) (mJ (p:=.int (5:Nat)) (q:=.int ((0:Int)+k)) mN ?_ (vA (by exact my (.l xN xR) [] []) (by exact (my (.i (.b xA xK) (.l xA (.c 8))) [_]) hk))) (oZ (Bp (b:=5) (by exact my (.b xJ xN) [] [])) (SQ k hk))) mN (oq (by decide))) nV
  ·walk_at "ev"
  ·walk_at "ev"
 case h6=>decide
 case h7=>exact λz z=>by kernel_rfl
 case h8=>rfl
 case h9=>exact ⟨by rfl,trivial⟩
 case h10=>rfl
 case h11=>decide+kernel
 case h12=>rw [wd,aB];rfl
theorem Kx {c:Sc} (hk:(iY scope (bu (C+1) scope.names cl) C c.env).kindOf x=aa .cell) (hb:(bu (C+1) scope.names []).lookup x=aa b) (UW: ∀z∈cl,z.2∈c.X)
  (hX: ∀d∈(nk c scope cl C g' T6).own,d∉c.X):sA (nk c scope cl C g' T6) x:=.inr ⟨b,{
 kind:=hk
 at':=by
  show (bu (C+1) scope.names cl).lookup x=aa b
  rw [pZ,dX,hb];rfl
 own:=.tail _ (pB.mpr ⟨x,hb⟩)
 only:=λy e=>by
  have e:(bu (C+1) scope.names cl).lookup y=aa b:=e
  rw [pZ] at e
  rcases ar.mp (mem_of_lookup e) with q|q
  ·exact tR _ _ _ _ _ q (mem_of_lookup hb)
  ·exact absurd (UW _ q) (hX b (.tail _ (pB.mpr ⟨x,hb⟩)))}⟩
end
section
variable {w:av} {A:aX} {g:aW} {L:aF} {σ:mX} {Λ:List (aF×List PV)}
theorem QR: ∀k<5,((128:Int)^k).natAbs<1073741824:=by decide+kernel
theorem Qc (hb:(bu (L+1) pC.scope.names []).lookup x=aa b):b∈(c1 A g L).X:=ax _ (.tail _ (ax _ (pB.mpr ⟨x,hb⟩)))
set_option maxHeartbeats 2000000 in
theorem Oy (G:Gd w 5 (c1 A g L)) (hc:cs.length=5) (hs4:sz.length=4) (hs5: ∀x∈sz,0<=x/\x<=5) (hs:aD ("cells":Str) σ=aa (PV.list (cs.map PV.int))) (hz:aD ("sizes":Str) σ=aa (PV.list (sz.map PV.int)))
  (hb:mT mu w (c1 A g L).env (c1 A g L).A (In (c1 A g L) (("rows",.list ((ag 4).map λn=>.list ((wY cs sz n).map PV.int)))::σ) Λ) b J):mT mu w (c1 A g L).env (c1 A g L).A (In (c1 A g L) σ Λ) (nj nA 2::b) J:=by
 have Vv:=aw
 refine mM (p:=.list ((ag 4).map λn=>.list ((wY cs sz n).map PV.int))) (.mk λs i=>Ev.run (mQ (FE (l:=ag 4) (V:=λk:Nat=>.int ((0:Int)+k)) (bs:=λk=>[("n",.int ((0:Int)+k))]) (cl:=[("sizes",L+3),("cells",L+2)]) [("cells",.list (cs.map PV.int)),("sizes",.list (sz.map PV.int))] (λy=>ai) (λn=>.list ((wY cs sz n).map PV.int))
  ?h1 ?h2 ?h3 ?h4 ?h5 ?h6 ?h7 ?h8 ?h9 ?h10 ?h11) ?h12) s i) hb (AM (by rfl) (by rfl))
 case h1=>exact pW G.zero (n:=4) mN (by exact my (.l xK xQ) [] []) (by rfl)
 case h2=>exact n5 (n5 nJ hz (.inl rfl) (λy=>rfl) (λy=>.inl rfl)) hs (.inl rfl) (λy=>rfl) (λy=>.inl rfl)
 case h3=>
  intro q C g' T6 _ hX
  refine nO (Kx (b:=C+1) rfl rfl (λz hz=> ?_) hX)
  simp only [ao,fD,or_false] at hz
  rcases hz with rfl|rfl
  ·exact Qc (x:="sizes") (by rfl)
  ·exact Qc (x:="cells") (by rfl)
 case h4=>exact λq C g' T6 z z z=>og
 case h5=>
  intro n C g' T6 hn _ k hf
  have hn:=aL.mp hn
  have hO:=G.offX i
  have G1:=Gd.comp G hO k hf rfl
  have hsn:sz[n]? =aa (sz[n]?.getD 0):=by rw [aA (by exact (my (.i (.e xB xK) (.i (.b xA xK) (.b xA xB))) [_,_]) hs4 hn)];rfl
  have hcn:cs[n+1]? =aa (cs[n+1]?.getD 0):=by rw [aA (by exact (my (.i (.e xB xN) (.i (.b xA xK) (.b (.a xA xI) xB))) [_,_]) hc hn)];rfl
  have hr:0<=sz[n]?.getD 0/\sz[n]?.getD 0<=5:=hs5 _ (br hsn)
  generalize hS:sz[n]?.getD 0=S0 at*
  generalize hV:cs[n+1]?.getD 0=V0 at*
  have hrow:wY cs sz n=(ag S0.toNat).map (w9 V0):=by unfold wY;rw [hS,hV]
  rw [hrow]
  refine .mk λs2 i2=>Ev.run (mQ (pG (l:=ag S0.toNat) (V:=λk:Nat=>.int ((0:Int)+k)) (bs:=λk=>[("i",.int ((0:Int)+k))]) (cl:=[("n",C+1),("cells",L+2)]) [("n",.int ((0:Int)+n)),("cells",.list (cs.map PV.int))] (λz=>ai) (λk=>.int (w9 V0 k))
   ?k1 ?k2 ?k3 ?k4 ?k5 ?k6 ?k7 ?k8 ?k9 ?k10 ?k11) ?k12) s2 i2
  case k1=>
   refine pW G1.zero (n:=S0.toNat) (mQ (nq (p:=.list (sz.map PV.int)) (q:=.int ((0:Int)+n)) (r:=.int S0) ?_ ?_ (m5 (by exact my (.L xJ (.a xJ (.k xA))) [_]) (by rw [a7,show ((0:Int)+n).toNat=n by exact my (.e (.t (.a xJ (.k xA))) xA) [_],hsn];rfl) (by exact (my (.i (.b xA xK) (.B (.a xJ (.k xA)) xS)) [_]) hn))) (by rw [eS hr.1])) (by exact (my (.i (.L xA xN) (.l (.t xA) xQ)) [] [_]) hr.2) (by rfl)
   ·walk_at "ev"
   ·walk_at "ev"
  case k2=>exact n5 (n5 nJ (by walk_at "lk") (.inl rfl) (λz=>rfl) (λz=>.inl rfl)) (by walk_at "lk") (.inl rfl) (λz=>rfl) (λz=>.inl rfl)
  case k3=>exact λz z z z z=>nO
  case k4=>exact λz z z z z z z=>og
  case k5=>
   intro x C2 g2 more2 hx _ _ _
   have hx:=aL.mp hx
   refine mJ (p:=.int (V0.fdiv ((128:Int)^x))) (q:=.int 128) (mJ (p:=.int V0) (q:=.int ((128:Int)^x)) (nq (p:=.list (cs.map PV.int)) (q:=.int (((0:Int)+n)+1)) ?_ (mJ (p:=.int ((0:Int)+n)) (q:=.int 1) ?_ mN nV) (m5 (by exact my (.L xJ (.a (.a xJ (.k xA)) xI)) [_]) (by rw [a7,show ((0:Int)+n+1).toNat=n+1 by exact my (.e (.t (.a (.a xJ (.k xA)) xI)) (.a xA xI)) [_],hcn];rfl) (by exact (my (.i (.b xA xK) (.B (.a (.a xJ (.k xA)) xI) xS)) [_]) hn)))
    (mJ (p:=.int (128:Nat)) (q:=.int ((0:Int)+x)) mN ?_ (vA (by exact my (.l xR xR) [] []) (by exact (my (.i (.L xA xN) (.i (.b xA (.t xA)) (.l xA (.c 8)))) [_] [_]) hr.2 hx))) (oZ (Bp (b:=128) (by exact my (.b xJ xR) [] [])) (QR x (by exact (my (.i (.L xA xN) (.i (.b xA (.t xA)) (.b xA xN))) [_] [_]) hr.2 hx)))) mN (oq (by decide))
   ·walk_at "ev"
   ·walk_at "ev"
   ·walk_at "ev"
  case k6=>rw [be];exact (my (.i (.e xA xL) (.i (.L xA xN) (.l (.t xA) xA))) [_] [_]) Vv hr.2
  case k7=>exact λz z=>by kernel_rfl
  case k8=>rfl
  case k9=>exact ⟨by rfl,by rfl,trivial⟩
  case k10=>rfl
  case k11=>decide+kernel
  case k12=>rw [wd,aB];rfl
 case h6=>decide
 case h7=>exact λz z=>by kernel_rfl
 case h8=>rfl
 case h9=>exact ⟨by rfl,by rfl,trivial⟩
 case h10=>rfl
 case h11=>decide+kernel
 case h12=>rw [wd]
end
section
variable {prog:aH} {w:av} {c:Sc} {σ:mX} {Λ:List (aF×List PV)} {J:hF->aW->Prop}
theorem K8 (hl:Ev prog w (fs c σ Λ) l (.int a)) (hr:Ev prog w (fs c σ Λ) r (.int b))
  (hb:pE prog w (In c ((x,.int (a+b))::σ) Λ) c.env c.A rest J) (hx:autoParam (sA c x) XJ) (hk:autoParam (c.env.scope.kind= .function) XZ) (hs:autoParam (cJ (.BinOp l .Add r bp) (aa (.Name x px)) pos.line c.env=bG false) XZ):
  mT prog w c.env c.A (In c σ Λ) (.Assign [.Name x px] (.BinOp l .Add r bp) pos::rest) J:=.mk λs i=>by
 rw [ci]
 refine ae (cN (j6 (ab (hl.run s i) (λv T0 uu=>eA uu λT2 T5=>ab (hr.run T0 (i.mono (mG T2))) (λu T3 uu=>eA uu λT4 Uh=> ?_) λz z e=>e) λz z e=>e)) hs)
 refine eE (tB T5) λt T1=> ?_;obtain rfl:=T1
 refine eE (tB Uh) λt' T1=> ?_;obtain rfl:=T1
 have Uc:bB T3 {T3 with toks:=T3.toks+1}:=pg _ _
 have Ui:=i.mono (mG (mH T2 (mH T4 Uc)))
 refine P.add_int ?_
 refine pR (ab (tY (p:=.int (a+b)) Ui hx tH hk) (λz Um uu tk=>eA uu λVB UV=> ?_) λz z e=>e)
 have pos:0<Um.toks:=bg (Nat.succ_pos _) tk
 exact ab (hb.run Um UV pos) (λfl UH uu=>eA uu λW7 j=>⟨((nB.of (mH T2 (mH T4 Uc))).trans VB).trans W7,j⟩) λz z e=>e
theorem Lf {st:eh} {I I':aW->Prop} (h:mT prog w env A I [st] (λfl g=>match fl with|.next=>I' g|f=>J f g)) (hc:pE prog w I' env A d J):pE prog w I env A (st::d) J:=K9 (b:=[st]) h hc
end
section
variable {w:av} {c:Sc} {σ:mX} {Λ:List (aF×List PV)} {J:hF->aW->Prop}
theorem KZ (G:Gd w 3 c) (ho:Ev mu w (fs c σ ((D,hp l)::Λ)) o (.inst D)) (h1:Ev mu w (fs c σ ((D,hp l)::Λ)) e1 (.str (S nm))) (h2:Ev mu w (fs c σ ((D,hp l)::Λ)) e2 (.str (S vl)))
  (hl:l.length<=1000) (k1:nm.length<=100/\ ∀c∈nm,vt ai c=ai) (k2:vl.length<=100/\ ∀c∈vl,vt false c=ai) (Uk: ∀q∈Λ,q.1≠D)
  (hb:mT mu w c.env c.A (In c σ ((D,hp (l++[(nm,vl)]))::Λ)) rest J)
  (V1:autoParam (bJ (.Call (.Attribute o "add_header" ap) [e1,e2] [] cp) c.env=(do
   let ov <-bJ o c.env
   iv ap.atName
   let (f,first) <-gU [ov] (hZ ov "add_header" pl)
   gI cp f first (fb cp (aE [e1,e2] c.env)) (cM cp (bR [] c.env)))) XZ)
  (he:autoParam (aE [e1,e2] c.env=(false,bJ e1 c.env)::aE [e2] c.env) XZ) (he2:autoParam (aE [e2] c.env=(false,bJ e2 c.env)::aE [] c.env) XZ)
  (hi:autoParam (i6 c.env=false) XZ) (hs:autoParam (cJ (.Call (.Attribute o "add_header" ap) [e1,e2] [] cp) az pos.line c.env=bG false) XZ):
  mT mu w c.env c.A (In c σ ((D,hp l)::Λ)) (.Expr (.Call (.Attribute o "add_header" ap) [e1,e2] [] cp) pos::rest) J:=
 qT (I':=In c σ ((D,hp (l++[(nm,vl)]))::Λ)) (λs i=>fM (jv (ab (ho.run s i) (λv T0 uu=>eA uu λT2 T5=>by
  refine ni T5 ?_;clear T5;intro a d T1 ha hd t;obtain rfl:=T1
  have T9:=i.mono (mG T2)
  refine tF (vN t) λWU I e1' V3=> ?_
  refine lL (f:=290) (G.inBase _ T9).frag I (Bh _) (DK _) (by kernel_rfl) (by kernel_rfl) (by show (gm ("add_header":Str) WU).map _=_;rw [V3 _ (by decide+kernel)];rfl) ?_
  refine nI (qp (ab ((mz (pos:=cp) h1 (mz h2 mI he2) he).run T0 T9) (λvs T3 uu=>eA uu λT4 Uh=> ?_) λy y e=>e) he)
  refine nh (sN Uh) λu z T1 ru rz=> ?_;obtain rfl:=T1
  have T7:=T9.mono (mG T4)
  refine ⟨rB ((G.inBase _ T7).frag _ _ (DR _).e) rfl,?_⟩
  refine oV (T7.lists (D,hp l) (.head _)) λhDo us VG rs=> ?_
  refine ab (LK G.room (G.inBase _ T7) T7.liveAll (G.offX T7) (ax _ hDo) (t.keep (mG T4)) VG rs hl k1 k2 ru rz) (λz Ua uu=>HJ uu λVY kx Ww Rl rs2=> ?_) λz z e=>e
  exact ⟨((nB.of T2).trans (nB.of T4)).trans VY,T7.pushX kx ⟨Ww,Rl,rs2⟩ Uk⟩) λz z e=>e) V1) hi hs) hb
theorem Dv (B:oi w.params s.heap):tf A mu w (.ref 293) s:=λQ E h=>by
 refine mR (looks_keep (K:=KB w.params) (M:=aI mu w) (f:=.ref 293) (by kernel_rfl) B.frag) λk z L=> ?_
 exact L.here (h k)
theorem Cm (G:Gd w 3 c) (he:Ev mu w (fs c σ Λ) e (.list (hp l))) (ok:E9 l) (hx:autoParam (c.env.kindOf "Headers"=aa .globalImplicit) XZ)
  (hs:autoParam (aE [e] c.env=(false,bJ e c.env)::aE [] c.env) XZ):Ev mu w (fs c σ Λ) (.Call (.Name "Headers" np) [e] [] cp) (.hdr (hp l)):=.mk λs i=>
 (Cg (ud G (v:=.ref 293) (by kernel_rfl) hx) (mz he mI hs) (λs i=>Dv (G.inBase _ i)) (Gh G.room G.inBase (G.offX i) ok) hs).run s i
theorem MI (G:Gd w 3 c) (hb: ∀D,c.g.get? D=az->D∉c.X->mT mu w (c.addOwn D).env (c.addOwn D).A (In (c.addOwn D) ((x,.inst D)::σ) ((D,[])::Λ)) rest J)
  (hp: ∀D,sA (c.addOwn D) x) (hx:autoParam (c.env.kindOf "Headers"=aa .globalImplicit) XZ) (hs:autoParam (cJ (.Call (.Name "Headers" np) [] [] cp) (aa (.Name x px)) pos.line c.env=bG false) XZ):
  mT mu w c.env c.A (In c σ Λ) (.Assign [.Name x px] (.Call (.Name "Headers" np) [] [] cp) pos::rest) J:=.mk λs i=>by
 rw [ci]
 refine ae (cN (cm (ab ((ud G (v:=.ref 293) (by kernel_rfl) hx).run s i) (λv T0 uu=>eA uu λT2 T5=> ?_) λz z e=>e)) hs)
 subst T5
 have T9:=i.mono (mG T2)
 refine nI (wp ⟨Dv (G.inBase _ T9),ab (FY G.room (G.inBase _ T9) T9.liveAll (G.offX T9)) (λv T3 uu=>IN uu λT4 a d D e ha hd t hD V7=> ?_) λz z e=>e⟩)
 subst e
 have j:=T9.addOwn (mG T4) hD ⟨#[],_,V7⟩
 have T7:In (c.addOwn D) σ ((D,[])::Λ) T3.heap:=by
  refine {j with lists:=λq hq=> ?_}
  rcases ao.mp hq with e|e
  ·subst e;exact ⟨.head _,[],⟨_,V7⟩,mK.nil⟩
  ·exact j.lists q e
 have gD:c.g.get? D=az:=T7.fresh _ (.head _)
 have haD:a≠D:=λq=>by rw [<-q,t.obj] at V7;have:=congrArg Obj.cls (am V7);cases this
 have hdD:d≠D:=λq=>by
  obtain ⟨od,e2,e3,_⟩:=t.dic
  rw [q,V7] at e2;obtain rfl:=am e2;exact nE e3
 have nX:D∉c.X:=λq=>by
  obtain ⟨o,e⟩:=T9.liveAll _ q
  rw [hD] at e;exact nE e
 have r:mP (c.addOwn D).X T3.heap (.inst D) (.ref a):=by
  refine ⟨a,d,rfl,λq=> ?_,λq=> ?_,t⟩
  ·rcases ao.mp q with q|q
   ·exact haD q
   ·exact ha q
  ·rcases ao.mp q with q|q
   ·exact hdD q
   ·exact hd q
 refine ab (tY (c:=c.addOwn D) T7 (hp D) r G.fn) (λz Ua uu=>eA uu λVY Ui=> ?_) λz z e=>e
 exact ab ((hb D gD nX).run Ua Ui) (λfl Um uu=>eA uu λVB jj=>⟨((nB.of T2).trans (nB.of T4)).trans (VY.trans VB),jj⟩) λz z e=>e
end
end
section
open PySem.Calls PyProof.Rows PySem.Builtin.Str
def Ap (κ:mX) (xs:List Str):Prop:= ∀q∈κ,κ.lookup q.1=aa q.2/\q.1∉xs
theorem Ap.refl (h:Ap κ xs):Has κ κ:=λq hq=>(h q hq).1
theorem Ap.skip (h:Ap κ xs) (hx:xs.elem x=ai) (t:Has σ κ):Has ((x,p)::σ) κ:=λq hq=>by
 have:(q.1==x)=false:=by
  have:q.1≠x:=λe=>(h q hq).2 (by rw [e];exact kd hx)
  simpa using this
 rw [aD,this]
 exact t q hq
noncomputable def LN:List Str:=["sign","signs","ahead","text","left","name","tone","share","value","hand","book","mail","line","n","one","place","own","octets","coded","x"]
theorem Ap.mono (h:Ap κ ys) (k: ∀x∈xs,x∈ys):Ap κ xs:=λq hq=>⟨(h q hq).1,λe=>(h q hq).2 (k _ e)⟩
theorem Ap.cons (h:Ap κ (x::xs)) (hx:x∉xs):Ap ((x,p)::κ) xs:=λq hq=>by
 rcases ao.mp hq with rfl|hq
 ·exact ⟨BZ,hx⟩
 ·refine eA (h q hq) λa b=> ?_
  have:q.1≠x:=λe=>b (by rw [e];exact .head _)
  exact ⟨B9 (by simpa using this) a,λe=>b (.tail _ e)⟩
theorem Ap.nil:Ap [] xs:=λq hq=>nomatch hq
noncomputable def LS:List Str:=["sign","signs","ahead","text","value","share","hand"]
end
section
open PySem.Calls PyProof.Rows PySem.Builtin.Str
noncomputable def AS:List (List Nat):=[[10],[13,10],[13]]
def vq (dr d:Int):List Nat:=AS[((dr.fdiv d).fmod 3).toNat]?.getD [10]
noncomputable def um:List (List Nat):=[[97,98,99,100],[65,66,67,68]]
def AN (dr:Int) (n:Nat):Nat:=(um[(((dr.fdiv 54).fdiv ((2:Int)^n)).fmod 2).toNat]?.getD [])[n]?.getD 97
noncomputable def Fp (dr:Int) (n:Nat):Nat:=(((dr.fdiv 864).fdiv ((3:Int)^n)).fmod 3).toNat
section
variable {w:av} {A:aX} {g:aW} {L:aF} {σ:mX} {Λ:List (aF×List PV)}
theorem qO {a m:Int} (hm:0<m):0<=a.fmod m/\a.fmod m<m:=by
 rw [bM _ (by exact (my (.i (.B xJ xA) (.L xJ xA)) [] [_]) hm)]
 exact ⟨Int.emod_nonneg _ (by exact (my (.i (.B xJ xA) (.n (.E xA xJ))) [] [_]) hm),Int.emod_lt_of_pos _ (by omega)⟩
theorem PR (dr d:Int):AS[((dr.fdiv d).fmod 3).toNat]? =aa (vq dr d):=by
 have h:=qO (a:=dr.fdiv d) (m:=3) (by decide)
 unfold vq
 rw [aA (show ((dr.fdiv d).fmod 3).toNat<AS.length by exact (my (.i (.B xA xO) (.b (.t xA) xO)) [] [_]) h.2)];rfl
theorem Kl (G:Gd w 5 c) (he:Ev mu w (fs c σ Λ) e (.int ((dr.fdiv d).fmod 3)))
  (h1:autoParam (aE [.Constant (.str (aS "\n")) k1 p1,.Constant (.str (aS "\x0d\n")) k2 p2,.Constant (.str (aS "\x0d")) k3 p3] c.env=(false,bJ (.Constant (.str (aS "\n")) k1 p1) c.env)::aE [.Constant (.str (aS "\x0d\n")) k2 p2,.Constant (.str (aS "\x0d")) k3 p3] c.env) XZ)
  (h2:autoParam (aE [.Constant (.str (aS "\x0d\n")) k2 p2,.Constant (.str (aS "\x0d")) k3 p3] c.env=(false,bJ (.Constant (.str (aS "\x0d\n")) k2 p2) c.env)::aE [.Constant (.str (aS "\x0d")) k3 p3] c.env) XZ)
  (h3:autoParam (aE [.Constant (.str (aS "\x0d")) k3 p3] c.env=(false,bJ (.Constant (.str (aS "\x0d")) k3 p3) c.env)::aE [] c.env) XZ):
  Ev mu w (fs c σ Λ) (.Subscript (.Tuple [.Constant (.str (aS "\n")) k1 p1,.Constant (.str (aS "\x0d\n")) k2 p2,.Constant (.str (aS "\x0d")) k3 p3] k p4) e pos) (.str (S (vq dr d))):=by
 have h:=qO (a:=dr.fdiv d) (m:=3) (by decide)
 refine nq (p:=.tup (AS.map λl=>.str (S l))) (q:=.int ((dr.fdiv d).fmod 3)) (ou (mz (m6 (by kernel_rfl)) (mz (m6 (by kernel_rfl)) (mz (m6 (by kernel_rfl)) mI h3) h2) h1) (by decide)) he (rI h.1 (by rw [a7,PR];rfl) (by exact (my (.i (.B xA xO) (.B xA xS)) [] [_]) h.2))
theorem Sd: ∀k<4,((2:Int)^k).natAbs<1073741824:=by decide+kernel
theorem R6: ∀k<4,((3:Int)^k).natAbs<1073741824:=by decide+kernel
set_option maxHeartbeats 1000000 in
theorem I3 (G:Gd w 5 (c1 A g L)) (hd:aD ("dress":Str) σ=aa (PV.int dr))
  (hb:mT mu w (c1 A g L).env (c1 A g L).A (In (c1 A g L) (("letters",.list ((ag 4).map λn=>.str (S [AN dr n])))::σ) Λ) b J):mT mu w (c1 A g L).env (c1 A g L).A (In (c1 A g L) σ Λ) (nj nA 7::b) J:=by
 have hz:=aw
 refine mM (p:=.list ((ag 4).map λn=>.str (S [AN dr n]))) (.mk λs i=>Ev.run (mQ (pG (l:=ag 4) (V:=λk:Nat=>.int ((0:Int)+k)) (bs:=λk=>[("n",.int ((0:Int)+k))]) (cl:=[("dress",L+6)]) [("dress",.int dr)] (λz=>ai) (λn=>.str (S [AN dr n]))
  ?h1 ?h2 ?h3 ?h4 ?h5 ?h6 ?h7 ?h8 ?h9 ?h10 ?h11) ?h12) s i) hb (AM (by rfl) (by rfl))
 case h1=>exact pW G.zero (n:=4) mN (by exact my (.l xK xQ) [] []) (by rfl)
 case h2=>exact n5 nJ hd (.inl rfl) (λz=>rfl) (λz=>.inl rfl)
 case h3=>exact λq C g' T6 z=>nO
 case h4=>exact λq C g' T6 z z z=>og
 case h5=>
  intro n C g' T6 hn _ _ _
  have hn:=aL.mp hn
  have h:=qO (a:=(dr.fdiv 54).fdiv ((2:Int)^n)) (m:=2) (by decide)
  have e1:um[(((dr.fdiv 54).fdiv ((2:Int)^n)).fmod 2).toNat]? =aa (um[(((dr.fdiv 54).fdiv ((2:Int)^n)).fmod 2).toNat]?.getD []):=by
   rw [aA (show _<um.length by exact (my (.i (.B xA xM) (.b (.t xA) xM)) [] [_]) h.2)];rfl
  have e2:(um[(((dr.fdiv 54).fdiv ((2:Int)^n)).fmod 2).toNat]?.getD [])[n]? =aa (AN dr n):=by
   have UA: ∀k<2,∀n<4,(um[k]?.getD [])[n]? =aa ((um[k]?.getD [])[n]?.getD 97):=by decide
   exact UA _ (by exact (my (.i (.B xA xM) (.b (.t xA) xM)) [] [_]) h.2) n hn
  refine nq (p:=.str (S (um[(((dr.fdiv 54).fdiv ((2:Int)^n)).fmod 2).toNat]?.getD []))) (q:=.int ((0:Int)+n)) (nq (p:=.tup (um.map λl=>.str (S l))) (q:=.int (((dr.fdiv 54).fdiv ((2:Int)^n)).fmod 2)) (ou (mz (m6 (by kernel_rfl)) (mz (m6 (by kernel_rfl)) mI)) (by decide))
   (mJ (p:=.int ((dr.fdiv 54).fdiv ((2:Int)^n))) (q:=.int 2) (mJ (p:=.int (dr.fdiv 54)) (q:=.int ((2:Int)^n)) (mJ (p:=.int dr) (q:=.int 54) ?_ mN (oZ (by decide) (by decide))) (mJ (p:=.int (2:Nat)) (q:=.int ((0:Int)+n)) mN ?_ (vA (by exact my (.l xM xR) [] []) (by exact (my (.i (.b xA xK) (.l xA (.c 8))) [_]) hn))) (oZ (Bp (b:=2) (by exact my (.b xJ xM) [] [])) (Sd n hn))) mN (oq (by decide)))
   (rI h.1 (by rw [a7,e1];rfl) (by exact (my (.i (.B xA xM) (.B xA xS)) [] [_]) h.2))) ?_ (qN (by exact my (.L xJ (.a xJ (.k xA))) [_]) (by rw [show ((0:Int)+n).toNat=n by exact my (.e (.t (.a xJ (.k xA))) xA) [_]];exact e2) (by exact (my (.i (.b xA xK) (.B (.a xJ (.k xA)) xS)) [_]) hn))
  ·walk_at "ev"
  ·walk_at "ev"
  ·walk_at "ev"
 case h6=>decide
 case h7=>exact λz z=>by kernel_rfl
 case h8=>rfl
 case h9=>exact ⟨by rfl,trivial⟩
 case h10=>rfl
 case h11=>decide+kernel
 case h12=>rw [wd]
set_option maxHeartbeats 1000000 in
theorem Of (G:Gd w 5 (c1 A g L)) (hd:aD ("dress":Str) σ=aa (PV.int dr))
  (hb:mT mu w (c1 A g L).env (c1 A g L).A (In (c1 A g L) (("dots",.list ((ag 4).map λn=>.int (Fp dr n:Nat)))::σ) Λ) b J):mT mu w (c1 A g L).env (c1 A g L).A (In (c1 A g L) σ Λ) (nj nA 8::b) J:=by
 have hz:=aw
 refine mM (p:=.list ((ag 4).map λn=>.int (Fp dr n:Nat))) (.mk λs i=>Ev.run (mQ (pG (l:=ag 4) (V:=λk:Nat=>.int ((0:Int)+k)) (bs:=λk=>[("n",.int ((0:Int)+k))]) (cl:=[("dress",L+6)]) [("dress",.int dr)] (λz=>ai) (λn=>.int (Fp dr n:Nat))
  ?h1 ?h2 ?h3 ?h4 ?h5 ?h6 ?h7 ?h8 ?h9 ?h10 ?h11) ?h12) s i) hb (AM (by rfl) (by rfl))
 case h1=>exact pW G.zero (n:=4) mN (by exact my (.l xK xQ) [] []) (by rfl)
 case h2=>exact n5 nJ hd (.inl rfl) (λz=>rfl) (λz=>.inl rfl)
 case h3=>exact λq C g' T6 z=>nO
 case h4=>exact λq C g' T6 z z z=>og
 case h5=>
  intro n C g' T6 hn _ _ _
  have hn:=aL.mp hn
  have h:=qO (a:=(dr.fdiv 864).fdiv ((3:Int)^n)) (m:=3) (by decide)
  refine mQ (mJ (p:=.int ((dr.fdiv 864).fdiv ((3:Int)^n))) (q:=.int 3) (mJ (p:=.int (dr.fdiv 864)) (q:=.int ((3:Int)^n)) (mJ (p:=.int dr) (q:=.int 864) ?_ mN (oZ (by decide) (by decide))) (mJ (p:=.int (3:Nat)) (q:=.int ((0:Int)+n)) mN ?_ (vA (by exact my (.l xO xR) [] []) (by exact (my (.i (.b xA xK) (.l xA (.c 8))) [_]) hn))) (oZ (Bp (b:=3) (by exact my (.b xJ xO) [] [])) (R6 n hn))) mN (oq (by decide))) ?_
  ·walk_at "ev"
  ·walk_at "ev"
  ·unfold Fp;rw [eS h.1]
 case h6=>decide
 case h7=>exact λz z=>by kernel_rfl
 case h8=>rfl
 case h9=>exact ⟨by rfl,trivial⟩
 case h10=>rfl
 case h11=>decide+kernel
 case h12=>rw [wd]
theorem NN (G:Gd w 5 (c1 A g L)) {cs:List Int} (h0:cs[0]? =aa c0) (hdr:c0.fdiv 625=dr) (hs:aD ("cells":Str) σ=aa (PV.list (cs.map PV.int)))
  (hb:mT mu w (c1 A g L).env (c1 A g L).A (In (c1 A g L) (("mark",.str (S (vq dr 18)))::("eol",.str (S (vq dr 6)))::("width",.int (12+dr.fmod 6))::("dress",.int dr)::σ) Λ) b J):
  mT mu w (c1 A g L).env (c1 A g L).A (In (c1 A g L) σ Λ) (nj nA 3::nj nA 4::nj nA 5::nj nA 6::b) J:=by
 subst hdr
 refine mM (p:=.int (c0.fdiv 625)) (mJ (p:=.int c0) (q:=.int 625) (nq (p:=.list (cs.map PV.int)) (q:=.int 0) (nw hs) mN (m5 (by exact my (.L xJ xJ) []) (by show (cs.map PV.int)[0]? =_;rw [a7,h0];rfl) (by exact my (.B xJ xS) []))) mN (oZ (by decide) (by decide))) ?_ (AM (by rfl) (by rfl))
 refine mM (p:=.int (12+(c0.fdiv 625).fmod 6)) (mJ mN (mJ (p:=.int (c0.fdiv 625)) (q:=.int 6) (by walk_at "ev") mN (oq (by decide))) nV) ?_
 refine mM (p:=.str (S (vq (c0.fdiv 625) 6))) (Kl G ?_) ?_
 ·refine mJ (p:=.int ((c0.fdiv 625).fdiv 6)) (q:=.int 3) (mJ (p:=.int (c0.fdiv 625)) (q:=.int 6) ?_ mN (oZ (by decide) (by decide))) mN (oq (by decide))
  walk_at "ev"
 refine mM (p:=.str (S (vq (c0.fdiv 625) 18))) (Kl G ?_) hb
 refine mJ (p:=.int ((c0.fdiv 625).fdiv 18)) (q:=.int 3) (mJ (p:=.int (c0.fdiv 625)) (q:=.int 18) ?_ mN (oZ (by decide) (by decide))) mN (oq (by decide))
 walk_at "ev"
end
noncomputable def m7 (k c:Nat):List Nat:=aG k 46++[c]
noncomputable def mS (r:List Nat):List Nat:=r.map (128+ ·)
def tP (dt lt:Nat->Nat) (rs:Nat->List Nat):HP:=(ag 4).map λn=>(m7 (dt n) (lt n),mS (rs n))
theorem zB (k:Nat):(aG k [46]).flatten=aG k 46:=by
 induction k with
 |zero=>rfl
 |succ k ih=>rw [cq,cu,ih,cq];rfl
theorem zK: ∀c∈za,vt ai c=ai:=by decide+kernel
theorem D8: ∀c<256,128<=c->vt false c=ai:=by decide+kernel
theorem AY (hc:c∈za): ∀d∈m7 k c,d∈za:=by
 intro d hd
 rcases ar.mp hd with h|h
 ·rw [(dW.mp h).2];decide
 ·rw [ak.mp h];exact hc
theorem tW (h: ∀x∈r,x<128):vv (mS r):=by
 intro c hc
 refine mR (aK.mp hc) λx hx T1=> ?_;obtain rfl:=T1
 have:=h x hx
 exact (my (.i (.b xA xR) (.a (.l xR (.a xR xA)) (.b (.a xR xA) (.c 256)))) [_]) this
theorem Jh (r:List Nat):(Txt.join (S []) ((r.map λx=>[x]).map S)).cps.toList=r:=by
 rw [yl]
 induction r with
 |nil=>rfl
 |cons x r ih=>
  cases r with
  |nil=>rfl
  |cons y r=>
   have:jn [] (([x]:List Nat)::(eV (λx=>[x]) (y::r)))=[x]++[]++jn [] (eV (λx=>[x]) (y::r)):=rfl
   rw [ba,this,ih];rfl
theorem Q4 (h:x.cps.toList=l):x=S l:=by
 subst h;rfl
section
variable {w:av}
theorem GF (G:Gd w 1 c) (hi:Ev mu w (fs c σ Λ) iter (.list (r.map λx:Nat=>PV.int x))) (hr: ∀x∈r,x<128) (hl:r.length<=100)
  (hO: ∀h,In c σ Λ h->sP w.params c.X) (UW:gK sc c.env=bG []) (hk:sc.kind= .function) (Xy: ∀y∈sc.names,y.2= .local->sc.names.lookup y.1=aa .local)
  (hp: ∀C g T6,sA (nk c sc [] C g T6) "x") (hkc: ∀C g T6,(nk c sc [] C g T6).env.kindOf "chr"=aa .globalImplicit) (hf: ∀C g T6,(nk c sc [] C g T6).env.scope.kind= .function)
  (hs: ∀x,cO iter c.env x=bG x)
  (UT:aE [.ListComp (.Call (.Name "chr" p0) [.BinOp (.Constant (.int 128) k p1) .Add (.Name "x" p2) p3] [] p4) [⟨.Name "x" p5,iter,[],0⟩] sc p6] c.env=(false,bJ (.ListComp (.Call (.Name "chr" p0) [.BinOp (.Constant (.int 128) k p1) .Add (.Name "x" p2) p3] [] p4) [⟨.Name "x" p5,iter,[],0⟩] sc p6) c.env)::aE [] c.env)
  (WS: ∀C g T6,aE [.BinOp (.Constant (.int 128) k p1) .Add (.Name "x" p2) p3] (nk c sc [] C g T6).env=(false,bJ (.BinOp (.Constant (.int 128) k p1) .Add (.Name "x" p2) p3) (nk c sc [] C g T6).env)::aE [] (nk c sc [] C g T6).env)
  (Uq:db (.Constant (.str (aS "")) kk p7) "join" c.env (bJ (.Constant (.str (aS "")) kk p7) c.env)=bJ (.Constant (.str (aS "")) kk p7) c.env)
  (U1:((fb pos (aE [.ListComp (.Call (.Name "chr" p0) [.BinOp (.Constant (.int 128) k p1) .Add (.Name "x" p2) p3] [] p4) [⟨.Name "x" p5,iter,[],0⟩] sc p6] c.env)).all (λx=> !x.1)&&(cM pos (bR [] c.env)).all (λx=>x.1.isSome)
   &&decide (([.ListComp (.Call (.Name "chr" p0) [.BinOp (.Constant (.int 128) k p1) .Add (.Name "x" p2) p3] [] p4) [⟨.Name "x" p5,iter,[],0⟩] sc p6]:List Expr).length+([]:List eW).length+(if ([]:List eW).isEmpty then 0 else 1)<30))=ai)
  (Uv:(ap.endLine==pos.line)=ai):
  Ev mu w (fs c σ Λ) (.Call (.Attribute (.Constant (.str (aS "")) kk p7) "join" ap) [.ListComp (.Call (.Name "chr" p0) [.BinOp (.Constant (.int 128) k p1) .Add (.Name "x" p2) p3] [] p4) [⟨.Name "x" p5,iter,[],0⟩] sc p6] [] pos) (.str (S (mS r))):=by
 have hz:=aw
 refine rg (p:=.str (S [])) (T:="str") (m6 (by kernel_rfl)) oj F.plainAttrs_str F.slot_str_join F.type_str_join (mz (p:=.list (((mS r).map λx=>[x]).map S |>.map PV.str)) (.mk λs i=>Ev.run (mQ (pG (l:=r) (V:=λx:Nat=>PV.int x) (bs:=λx=>[("x",.int (x:Nat))]) (cl:=[]) [] (λz=>ai) (λx=>.str (S [128+x]))
  (qF hi G.room.1 (.inl ⟨_,_,rfl⟩) (λz h=>nomatch h)) nJ (λx C g T6 z=>nO (hp C g T6) (hf C g T6)) (λz z z z z z z=>og) ?h5 (by exact (my (.i (.l xA xP) (.i (.e xB xL) (.l xA xB))) [_,_]) hl hz) (λz z=>rfl) UW trivial hk Xy hs) ?h12) s i) mI UT) (qw (v4 (ua ?hj)) (by rw [Q4 (Jh (mS r))])) Uq U1 Uv UT
 case h5=>
  intro x C g' T6 hx _ kk hn
  have G1:=Gd.comp G (hO _ i) kk hn (hf C g' T6)
  have hx:=hr x hx
  refine n9 G1 (ps:=[.int ((128+x:Nat):Int)]) (by kernel_rfl) (by kernel_rfl) (mz (mQ (mJ (p:=.int 128) (q:=.int (x:Nat)) mN (nw (by walk_at "lk") (hf C g' T6)) nV) (by congr 1)) mI (WS C g' T6)) (Ca (by exact (my (.i (.b xA xR) (.l (.a xR xA) (.c 1114111))) [_]) hx)) (.inl ⟨_,rfl⟩) (by decide+kernel) (hkc C g' T6) (by decide+kernel) (WS C g' T6)
 case h12=>rw [wd,mS,aB,aB,aB];rfl
 case hj=>
  have h1:(((mS r).map λx=>[x]).flatten)=mS r:=by rw [<-cn];exact List.flatMap_singleton' (mS r)
  rw [h1,ah];show (eV _ r).length+r.length*0<=_;rw [ah];exact (my (.i (.l xA xP) (.l (.a xA (.r xA 0)) (.c 1000000))) [_]) hl
end
noncomputable def uT (rs:Nat->List Nat):PV:=.list ((ag 4).map λn=>.list ((rs n).map λx:Nat=>PV.int x))
theorem oS {α:Type} {f:Nat->α} (h:k<n):((ag n).map f)[k]? =aa (f k):=by
 rw [a7,List.getElem?_range h];rfl
theorem Gd.sub (G:Gd w n c) (h:m<=n):Gd w m c:=⟨G.base,G.off,G.room.less h,G.fn,G.gl,G.bl⟩
theorem A5 {n:Nat}:((0:Int)+n)=n:=by exact my (.E (.a xJ (.k xA)) (.k xA)) [_]
section
variable {w:av} {A:aX} {g:aW} {L:aF} {σ:mX} {Λ:List (aF×List PV)}
set_option maxHeartbeats 2000000 in
theorem Pd (G:Gd w 5 (c1 A g L)) (VK: ∀n<4,dt n<3) (Un: ∀n<4,lt n∈za) (Xz: ∀n<4,(rs n).length<=5/\ ∀x∈rs n,x<128)
  (hr:aD ("rows":Str) σ=aa (uT rs)) (hl:aD ("letters":Str) σ=aa (PV.list ((ag 4).map λn=>PV.str (S [lt n])))) (hd:aD ("dots":Str) σ=aa (PV.list ((ag 4).map λn=>PV.int (dt n:Nat))))
  (hb:mT mu w (c1 A g L).env (c1 A g L).A (In (c1 A g L) (("book",.hdr (hp (tP dt lt rs)))::σ) Λ) b J):mT mu w (c1 A g L).env (c1 A g L).A (In (c1 A g L) σ Λ) (nj nA 9::b) J:=by
 have Vv:=aw
 refine mM (p:=.hdr (hp (tP dt lt rs))) (Cm (Gd.sub G (by exact my (.l xO xN) [] [])) (.mk λs i=>Ev.run (mQ (pG (l:=ag 4) (V:=λk:Nat=>.int ((0:Int)+k)) (bs:=λk=>[("n",.int ((0:Int)+k))]) (cl:=[("rows",L+5),("letters",L+7),("dots",L+8)]) [("rows",uT rs),("letters",.list ((ag 4).map λn=>.str (S [lt n]))),("dots",.list ((ag 4).map λn=>.int (dt n:Nat)))] (λz=>ai) (λn=>.tup [.str (S (m7 (dt n) (lt n))),.str (S (mS (rs n)))])
  ?h1 ?h2 ?h3 ?h4 ?h5 ?h6 ?h7 ?h8 ?h9 ?h10 ?h11) ?h12) s i) ?hok) hb (AM (by rfl) (by rfl))
 case h1=>exact pW G.zero (n:=4) mN (by exact my (.l xK xQ) [] []) (by rfl)
 case h2=>exact n5 (n5 (n5 nJ hd (.inl rfl) (λz=>rfl) (λz=>.inl rfl)) hl (.inl rfl) (λz=>rfl) (λz=>.inl rfl)) hr (.inl rfl) (λz=>rfl) (λz=>.inl rfl)
 case h3=>exact λq C g' T6 z=>nO
 case h4=>exact λq C g' T6 z z z=>og
 case h5=>
  intro n C g' T6 hn _ k hf
  have hn:=aL.mp hn
  have hO:=G.offX i
  have G1:=Gd.comp G hO k hf rfl
  refine ou (mz (mQ (mJ (p:=.str (S (aG (dt n) [46]).flatten)) (q:=.str (S [lt n])) (mJ (p:=.str (S [46])) (q:=.int (dt n:Nat)) (m6 (by kernel_rfl)) (nq (p:=.list ((ag 4).map λn=>.int (dt n:Nat))) (q:=.int ((0:Int)+n)) ?a1 ?a2 (m5 (by exact my (.L xJ (.a xJ (.k xA))) [_]) (by rw [A5];exact oS hn) (by exact (my (.i (.b xA xK) (.B (.a xJ (.k xA)) xS)) [_]) hn))) (ye (by decide) (by have:=VK n hn;exact (my (.i (.b xA xO) (.l xA xQ)) [_]) this)))
   (nq (p:=.list ((ag 4).map λn=>.str (S [lt n]))) (q:=.int ((0:Int)+n)) ?a3 ?a4 (m5 (by exact my (.L xJ (.a xJ (.k xA))) [_]) (by rw [A5];exact oS hn) (by exact (my (.i (.b xA xK) (.B (.a xJ (.k xA)) xS)) [_]) hn))) (ox ?a5)) ?a6)
   (mz (p:=.str (S (mS (rs n)))) ?oct mI)) (by simp;exact (my (.i (.e xA xL) (.l xM xA)) [_]) Vv)
  case a1=>walk_at "ev"
  case a2=>walk_at "ev"
  case a3=>walk_at "ev"
  case a4=>walk_at "ev"
  case a5=>rw [zB,a8];have:=VK n hn;exact (my (.i (.e xB xL) (.i (.b xA xO) (.l (.a xA xI) xB))) [_,_]) Vv this
  case a6=>rw [zB];rfl
  case oct=>
   refine .mk λs2 i2=>Ev.run (GF (Gd.sub G1 (by exact my (.l xI xN) [] [])) ?b1 (Xz n hn).2 (by have:=(Xz n hn).1;exact (my (.i (.l xA xN) (.l xA xP)) [_]) this) ?b2 ?b3 ?b4 ?b5 ?b6 ?b7 ?b8 ?b9 ?b10 ?b11 ?b12 ?b13 ?b14) s2 i2
   case b1=>
    refine nq (p:=uT rs) (q:=.int ((0:Int)+n)) ?c1 ?c2 (m5 (by exact my (.L xJ (.a xJ (.k xA))) [_]) (by rw [A5];exact oS hn) (by exact (my (.i (.b xA xK) (.B (.a xJ (.k xA)) xS)) [_]) hn))
    case c1=>walk_at "ev"
    case c2=>walk_at "ev"
   case b2=>exact λh i=>G1.offX i
   case b3=>rfl
   case b4=>rfl
   case b5=>decide+kernel
   case b6=>exact λz z z=>.inl (by rfl)
   case b7=>exact λz z z=>by rfl
   case b8=>exact λz z z=>by rfl
   case b9=>exact λz=>by rfl
   case b10=>rfl
   case b11=>exact λz z z=>by rfl
   case b12=>rfl
   case b13=>rfl
   case b14=>rfl
 case h6=>decide
 case h7=>exact λz z=>by kernel_rfl
 case h8=>rfl
 case h9=>exact ⟨by rfl,by rfl,by rfl,trivial⟩
 case h10=>rfl
 case h11=>decide+kernel
 case h12=>rw [wd,tP,hp,aB];rfl
 case hok=>
  refine ⟨by simp [tP],λq hq=> ?_⟩
  refine mR (aK.mp hq) λn hn T1=> ?_;obtain rfl:=T1
  have hn:=aL.mp hn
  have h3:=VK n hn
  refine ⟨⟨?_,λc hc=>zK c (AY (Un n hn) c hc)⟩,⟨?_,λc hc=> ?_⟩⟩
  ·show (m7 _ _).length<=100
   rw [m7,af,a8];exact (my (.i (.b xA xO) (.l (.a xA xI) xP)) [_]) h3
  ·show (mS _).length<=100
   rw [mS,ah];have:=(Xz n hn).1;exact (my (.i (.l xA xN) (.l xA xP)) [_]) this
  ·have:=tW (Xz n hn).2 c hc
   exact D8 c this.2 this.1
end
noncomputable def DN (t:Option PV):PV:=match t with|some (.tup [h,_,_])=>h|_=>.none
theorem Rn: ∀k<4,∃hq,oz (.int 4) (.int (k:Nat)) (.int (k:Nat))=aa (.tup [hq,.fx (nu (4 - k)),.int 4]):=by
 intro k hk
 match k,hk with
 |0,_=>exact ⟨DN (oz (.int 4) (.int (0:Nat)) (.int (0:Nat))),by kernel_rfl⟩
 |1,_=>exact ⟨DN (oz (.int 4) (.int (1:Nat)) (.int (1:Nat))),by kernel_rfl⟩
 |2,_=>exact ⟨DN (oz (.int 4) (.int (2:Nat)) (.int (2:Nat))),by kernel_rfl⟩
 |3,_=>exact ⟨DN (oz (.int 4) (.int (3:Nat)) (.int (3:Nat))),by kernel_rfl⟩
noncomputable def Fo (body:eh):List eh:=match body with|.For _ _ b _ _=>b|_=>[]
def ri:List eh:=Fo (nj nA 13)
section
variable {w:av} {A:aX} {g g':aW} {L D:aF} {is:List aF} {σ:mX} {Λ:List (aF×List PV)}
abbrev cH (A:aX) (g:aW) (L D:aF) (is:List aF) (g':aW):Sc:=((cV A g L D).addX is).at g'
theorem HU (hk:k<4):zN mu w 1 125 (λz=>True) [.int 4,.int (k:Nat),.int (k:Nat)] (λq=> ∃u hq mq,Fl (nu (4 - k)) u/\q= .tup [hq,.raw u,mq]):=by
 refine eE (Rn k hk) λhq e=> ?_
 have n1:qn (.int 4) (.int (k:Nat)):=trivial
 have n2:qn (.int (k:Nat)) (.int (k:Nat)):=trivial
 have UA:ny (.int 4) (.int (k:Nat)) (.int (k:Nat))= .int 4/\nR (ny (.int 4) (.int (k:Nat)) (.int (k:Nat))) (qo (.int 4) (.int (k:Nat)) (.int (k:Nat)))=aa (.int (4 - k))/\rS (qo (.int 4) (.int (k:Nat)) (.int (k:Nat))) (ny (.int 4) (.int (k:Nat)) (.int (k:Nat)))=false:=by
  match k,hk with
  |0,_=>exact ⟨by kernel_rfl,by kernel_rfl,by kernel_rfl⟩
  |1,_=>exact ⟨by kernel_rfl,by kernel_rfl,by kernel_rfl⟩
  |2,_=>exact ⟨by kernel_rfl,by kernel_rfl,by kernel_rfl⟩
  |3,_=>exact ⟨by kernel_rfl,by kernel_rfl,by kernel_rfl⟩
 intro A X I r hI h0 ho
 have:=Ib (w:=w) n1 n2 n1 e UA.1 UA.2.1 UA.2.2 A X I r hI h0 ho
 refine .mk λs vs i t0 lx rs=>ab (this.run s vs i t0 lx rs) (λv s' uu=>oV uu λk p hp r=> ?_) λz z e=>e
 refine nh hp λu sf hf e1 e2=> ?_
 cases e1
 exact ⟨k,p,⟨u,hq,_,hf,e2⟩,r⟩
noncomputable def qy (t:Nat):Nat:=1+t % 4
noncomputable def sy (t:Nat):Nat:=4 - t/2 % 4
theorem Gp (t:Nat):(qy t,sy t)∈xg:=by
 have UA: ∀m<8,(1+m % 4,4 - m/2 % 4)∈xg:=by decide
 have h:=UA (t % 8) (fL _ (by decide))
 have e1:t % 8 % 4=t % 4:=by exact my (.e (.e (.e xA 8) 4) (.e xA 4)) [_]
 have e2:t % 8/2 % 4=t/2 % 4:=by exact my (.e (.e (.d (.e xA 8) 2) 4) (.e (.d xA 2) 4)) [_]
 rw [e1,e2] at h;exact h
set_option maxHeartbeats 1000000 in
theorem NX (G:Gd w 5 (cH A g L D is g')) {dr h:Nat} (hd:aD ("dress":Str) σ=aa (.int dr)) (hh:aD ("hand":Str) σ=aa (.int ((0:Int)+h)))
  (hb: ∀u,Fl (nu (sy (dr/69984+h))) u->pE mu w (In (cH A g L D is g') (("value",.raw u)::("share",.fx (nu (qy (dr/69984+h))))::("tone",.int (dr/69984+h:Nat))::σ) Λ) (cH A g L D is g').env (cH A g L D is g').A b J):
  mT mu w (cH A g L D is g').env (cH A g L D is g').A (In (cH A g L D is g') σ Λ) (nj ri 0::nj ri 1::nj ri 2::b) J:=by
 refine K8 (a:=(dr:Int).fdiv 69984) (b:=(0:Int)+h) (mJ (p:=.int dr) (q:=.int 69984) ?a1 mN (oZ (by decide) (by decide))) ?a2 ?rest
 case a1=>exact nw hd
 case a2=>exact nw hh
 have e0:(dr:Int).fdiv 69984+((0:Int)+h)=((dr/69984+h:Nat):Int):=by
  rw [bX _ (by decide)];exact my (.E (.a (.d (.k xA) 69984) (.a xJ (.k xB))) (.k (.a (.d xA 69984) xB))) [_,_]
 case rest=>
 rw [e0]
 generalize ht:dr/69984+h=t
 have h3:t % 4<4:=fL _ (by decide)
 refine eE (Rn (3 - t % 4) (by exact my (.b (.s xO (.e xA 4)) xK) [_])) λhq eq=> ?_
 have e3:(3:Int) - (t:Int).fmod 4=((3 - t % 4:Nat):Int):=by rw [bM _ (by decide)];exact my (.E (.s xO (.e (.k xA) 4)) (.k (.s xO (.e xA 4)))) [_]
 refine pS (p:=.fx (nu (qy t))) (nq (p:=.tup [hq,.fx (nu (4 - (3 - t % 4))),.int 4]) (q:=.int 1) (oE (Gd.sub (m:=1) G (by decide)) (ps:=[.int 4,.int ((3 - t % 4:Nat):Int),.int ((3 - t % 4:Nat):Int)]) (by kernel_rfl) (vD _).e (mz mN (mz ?b1 (mz ?b2 mI))) (uO trivial trivial trivial eq)) mN (rI (by exact my (.L xJ xI) [] []) (by rw [show 4 - (3 - t % 4)=qy t by exact my (.e (.s xK (.s xO (.e xA 4))) (.a xI (.e xA 4))) [_]];rfl) (by exact my (.B xI xS) []))) ?_
 case b1=>exact mQ (mJ (p:=.int 3) (q:=.int ((t:Int).fmod 4)) mN (mJ (p:=.int t) (q:=.int 4) (by walk_at "ev") mN (oq (by decide))) nK) (by rw [e3])
 case b2=>exact mQ (mJ (p:=.int 3) (q:=.int ((t:Int).fmod 4)) mN (mJ (p:=.int t) (q:=.int 4) (by walk_at "ev") mN (oq (by decide))) nK) (by rw [e3])
 have e4:((t:Int).fdiv 2).fmod 4=((t/2 % 4:Nat):Int):=by rw [bX _ (by decide),bM _ (by decide)];exact my (.E (.e (.d (.k xA) 2) 4) (.k (.e (.d xA 2) 4))) [_]
 refine uS (P:=λq=> ∃u,Fl (nu (sy t)) u/\q= .raw u) (PF (q:=.int 1) (IF (Gd.sub (m:=1) G (by decide)) (ps:=[.int 4,.int ((t/2 % 4:Nat):Int),.int ((t/2 % 4:Nat):Int)]) (I₀:=λz=>True) (by kernel_rfl) (vD _).e (mz mN (mz ?c1 (mz ?c2 mI))) (HU (fL _ (by decide))) trivial (λz z z z=>trivial)) mN ?c3) (λq hq=> ?c4)
 case c1=>exact mQ (mJ (p:=.int ((t:Int).fdiv 2)) (q:=.int 4) (mJ (p:=.int t) (q:=.int 2) (by walk_at "ev") mN (oZ (by decide) (by decide))) mN (oq (by decide))) (by rw [e4])
 case c2=>exact mQ (mJ (p:=.int ((t:Int).fdiv 2)) (q:=.int 4) (mJ (p:=.int t) (q:=.int 2) (by walk_at "ev") mN (oZ (by decide) (by decide))) mN (oq (by decide))) (by rw [e4])
 case c3=>
  rintro p ⟨u,hq,mq,hf,rfl⟩
  exact ⟨.raw u,⟨u,hf,rfl⟩,rI (by exact my (.L xJ xI) [] []) rfl (by exact my (.B xI xS) [])⟩
 case c4=>
  refine mR hq ?_;clear hq;intro u hf T1;obtain rfl:=T1
  rw [ht] at hb
  exact hb u hf
end
abbrev En:=Nat×Nat×List Nat
noncomputable def sO:List Nat:=[97,98,99,100,65,66,67,68]
noncomputable def xX (c:Nat):Nat:=if c<97 then c+32 else c
noncomputable def y4 (c:Nat):Nat:=if c<97 then c+32 else c - 32
def oa (e:En):List Nat×List Nat:=(m7 e.1 e.2.1,mS e.2.2)
def Ll (e:En):Prop:=e.1<=6/\e.2.1∈sO/\e.2.2≠[]/\e.2.2.length<=5/\ ∀x∈e.2.2,x<128
def zn (e:En):Nat:=xX e.2.1
def H7 (es:List En):Prop:=es.length<=4/\(∀e∈es,Ll e)/\es.Pairwise λa b=>zn a≠zn b
theorem rA: ∀k<7,∀c∈sO,oG (m7 k c)=m7 k (xX c)/\oG (m7 k (y4 c))=m7 k (xX c)/\Txt.swapcase (S (m7 k c))=S (m7 k (y4 c))/\gx (Txt.lower (S (m7 k c))).length=false/\gx (Txt.swapcase (S (m7 k c))).length=false/\y4 c∈sO/\c∈za/\
  (∀x∈m7 k (xX c),vt ai x=ai):=by decide+kernel
theorem zF (hk:k<7) (hc:c∈sO):y3 (m7 k c):=by
 refine L3 (rA k hk c hc) λh1 h2 h3 h4 h5 h6 h7 h8=> ?_
 refine ⟨?_,?_,?_,h4⟩
 ·rw [m7,af,a8];exact (my (.i (.b xA (.c 7)) (.l (.a xA xI) xP)) [_]) hk
 ·exact h1▸h8
 ·rw [h1,m7,af,a8];exact (my (.i (.b xA (.c 7)) (.l (.a xA xI) xQ)) [_]) hk
theorem zi (h:m7 k c=m7 k' c'):k=k'/\c=c':=by
 have h2:=congrArg List.getLast? h
 have h1:=congrArg bj h
 rw [m7,m7,kY,kY] at h2
 rw [m7,m7,af,af,a8,a8] at h1
 exact ⟨by simpa using h1,by simpa using h2⟩
theorem EI {α:Type} {f:α->Nat}: ∀{es:List α},es.Pairwise (λa b=>f a≠f b)-> ∀a∈es,∀b∈es,f a=f b->a=b
 |[],_,_,h,_,_,_=>nomatch h
 |e::es,hp,a,ha,b,hb,h=>by
  obtain ⟨h1,h2⟩:=dU.mp hp
  rcases ao.mp ha with q|ha2
  ·rcases ao.mp hb with q2|hb2
   ·rw [q,q2]
   ·exact absurd (q▸h) (h1 b hb2)
  ·rcases ao.mp hb with q2|hb2
   ·exact absurd (q2▸h).symm (h1 a ha2)
   ·exact EI h2 a ha2 b hb2 h
theorem Mj {α:Type} {p:α->Bool} {l:List α} {e:α} (he:e∈l) (hp:p e=ai) (hu: ∀x∈l,p x=ai->x=e):l[l.findIdx p]? =aa e:=by
 have Un:l.findIdx p<l.length:=List.findIdx_lt_length_of_exists ⟨e,he,hp⟩
 rw [aA Un,hu _ (dn Un) (la (w:=Un))]
theorem Ls (h:H7 es) (he:e∈es):w5 (es.map oa) (m7 e.1 (y4 e.2.1))= .str (S (mS e.2.2)):=by
 refine rQ h λz hok hpw=> ?_
 have o:=hok e he
 have f:=rA e.1 (by have:=o.1;exact (my (.i (.l xA (.c 6)) (.b xA (.c 7))) [_]) this) e.2.1 o.2.1
 have UA:(es.map oa)[(es.map oa).findIdx λq=>oG q.1==oG (m7 e.1 (y4 e.2.1))]? =aa (oa e):=by
  refine Mj (List.mem_map_of_mem he) ?_ λx hx hp=> ?_
  ·show (oG (m7 e.1 e.2.1)==_)=ai
   exact f.1▸f.2.1▸(beq_self_eq_true _)
  ·obtain ⟨e',he',rfl⟩:=aK.mp hx
   have o':=hok e' he'
   have f':=rA e'.1 (by have:=o'.1;exact (my (.i (.l xA (.c 6)) (.b xA (.c 7))) [_]) this) e'.2.1 o'.2.1
   have hp:(oG (m7 e'.1 e'.2.1)==oG (m7 e.1 (y4 e.2.1)))=ai:=hp
   rw [f'.1,f.2.1] at hp
   have:=(zi (gC hp)).2
   rw [EI hpw e' he' e he this]
 unfold w5
 rw [UA];rfl
noncomputable def oB:Nat->List Nat->List Nat
 |_,[]=>[]
 |a,x::t=>(x+a) % 128::oB ((x+a) % 128) t
noncomputable def pL:Nat->List Nat->Nat
 |a,[]=>a
 |a,x::t=>pL ((x+a) % 128) t
theorem Bg: ∀(t:List Nat) (a x:Nat),oB a (t++[x])=oB a t++[(x+pL a t) % 128]
 |[],_,_=>rfl
 |y::t,a,x=>by show _::oB _ (t++[x])=_;rw [Bg t];rfl
theorem yH: ∀(t:List Nat) (a x:Nat),pL a (t++[x])=(x+pL a t) % 128
 |[],_,_=>rfl
 |y::t,a,x=>yH t _ x
theorem zu: ∀(t:List Nat) {a:Nat},a<128->pL a t<128
 |[],_,h=>h
 |y::t,a,_=>zu t (fL _ (by decide))
theorem tn: ∀(t:List Nat) (a:Nat),(oB a t).length=t.length
 |[],_=>rfl
 |y::t,a=>by show _+1=_+1;rw [tn t]
theorem Aq: ∀(t:List Nat) (a:Nat),∀x∈oB a t,x<128
 |[],_,_,h=>nomatch h
 |y::t,a,x,h=>by
  rcases ao.mp h with rfl|h
  ·exact fL _ (by decide)
  ·exact Aq t _ x h
theorem Dz {l:List Nat} (h:l[i]? =aa x):l.take (i+1)=l.take i++[x]:=by
 refine eE (aT.mp h) λhi e=> ?_
 rw [dH hi,e]
noncomputable def oY:Nat->List En->List En
 |_,[]=>[]
 |a,(k,c,r)::t=>(if r.dropLast=[] then [] else [(k,c,oB a r.dropLast)])++oY (pL a r.dropLast) t
noncomputable def pJ:Nat->List En->Nat
 |a,[]=>a
 |a,(_,_,r)::t=>pJ (pL a r.dropLast) t
def r7 (e:En):List Nat×List Nat:=(m7 e.1 e.2.1,pq (128+e.2.2.getLast?.getD 0))
theorem x9: ∀(t:List En) (a:Nat) (e:En),oY a (t++[e])=oY a t++(if e.2.2.dropLast=[] then [] else [(e.1,e.2.1,oB (pJ a t) e.2.2.dropLast)])
 |[],a,(k,c,r)=>by show _++[]=[]++_;rw [bK];rfl
 |(k,c,r)::t,a,e=>by
  show _++oY _ (t++[e])=_
  rw [x9 t,<-aJ];rfl
theorem w3: ∀(t:List En) (a:Nat) (e:En),pJ a (t++[e])=pL (pJ a t) e.2.2.dropLast
 |[],_,_=>rfl
 |(k,c,r)::t,a,e=>w3 t _ e
theorem zk: ∀(t:List En) {a:Nat},a<128->pJ a t<128
 |[],_,h=>h
 |(k,c,r)::t,a,h=>zk t (zu _ h)
end
local macro_rules | `(tactic| walk_at $s:str) => q0q "has=B6|Ap.refl !|Ap.skip ! ?kr ?has|xq ?lk ?has" s
section
open PySem.Calls PyProof.Rows PySem.Builtin.Str
def NI:List eh:=Fo (nj ri 5)
noncomputable def QP (s:eh):Expr:=match s with|.For _ i _ _ _=>i|_=>.Constant .none 0 ⟨0,0,0,0⟩
theorem A8 (l:List α):qY l az (aa (-1))=l.dropLast:=by
 rw [show (-1:Int)= -((1:Nat):Int) from rfl,BC l 1 (aN _),List.dropLast_eq_take]
section
variable {w:av} {A:aX} {g g' g2:aW} {L D:aF} {is U2:List aF} {σ:mX} {Λ:List (aF×List PV)}
abbrev cI (A:aX) (g:aW) (L D:aF) (is:List aF) (g':aW) (U2:List aF) (g2:aW):Sc:=((cH A g L D is g').addX U2).at g2
set_option maxHeartbeats 1000000 in
theorem MD (G:Gd w 5 (cI A g L D is g' U2 g2)) {a t h:Nat} (hr: ∀x∈r,x<128) (hl:r.length<=5) (ha:a<128) (hu:Fl (nu (sy t)) u) (hκ:Ap κ LS)
  (hb:mT mu w (cI A g L D is g' U2 g2).env (cI A g L D is g' U2 g2).A (In (cI A g L D is g' U2 g2) (("signs",.str (S (mS (oB a r.dropLast))))::("ahead",.int (pL a r.dropLast:Nat))::("text",.str (S (mS r)))::("value",.raw u)::("share",.fx (nu (qy t)))::("hand",.int ((0:Int)+h))::κ) Λ) b J):
  mT mu w (cI A g L D is g' U2 g2).env (cI A g L D is g' U2 g2).A (In (cI A g L D is g' U2 g2) (("signs",.str (S (mS [])))::("ahead",.int (a:Nat))::("text",.str (S (mS r)))::("value",.raw u)::("share",.fx (nu (qy t)))::("hand",.int ((0:Int)+h))::κ) Λ) (nj NI 3::b) J:=by
 have hz:=aw
 have Ue:(mS r).length<=bn:=by have e:(mS r).length=r.length:=ah ..;exact (my (.i (.l xC xN) (.i (.e xB xL) (.i (.e xA xC) (.l xA xB)))) [_,_,_]) hl hz e
 refine rJ G (l:=r.dropLast) (V:=λx=>.str (S [128+x])) (bs:=λx=>[("sign",.str (S [128+x]))])
  (λi=>("signs",.str (S (mS (oB a (r.dropLast.take i)))))::("ahead",.int (pL a (r.dropLast.take i):Nat))::("text",.str (S (mS r)))::("value",.raw u)::("share",.fx (nu (qy t)))::("hand",.int ((0:Int)+h))::κ) (λz=>Λ) ?h1 ?h2 rfl (λz z z=>nO) ?h4 ?h5
 case h1=>
  have e:(S (mS r.dropLast)).cps.toList.map (λk=>PV.str ⟨#[k]⟩)=r.dropLast.map λx=>PV.str (S [128+x]):=by
   rw [mS,aB];rfl
  rw [<-e]
  have hv:Ev mu w (fs (cI A g L D is g' U2 g2) (("signs",.str (S (mS [])))::("ahead",.int (a:Nat))::("text",.str (S (mS r)))::("value",.raw u)::("share",.fx (nu (qy t)))::("hand",.int ((0:Int)+h))::κ) Λ) (QP (nj NI 3)) (.str (S (mS r.dropLast))):=by
   have e2:qY (mS r) az (aa (-1))=mS r.dropLast:=by rw [A8,mS,mS,ms]
   rw [<-e2]
   refine qv (l:=mS r) (lo:=az) (hi:=aa (-1)) (nw (by walk_at "lk")) rG (nY ?x1) Ue
   case x1=>exact rX mN oI
  exact N7 hv G.room.1
 case h2=>rfl
 case h4=>
  intro i x g3 is3 hx G3
  have Wt:x<128:=hr x (List.dropLast_subset r (br hx))
  have hA:=zu (r.dropLast.take i) ha
  have hT:wQ ((x:Nat):Int) ((pL a (r.dropLast.take i):Nat):Int) (((0:Int)+h).fmod 2) (nu (qy t)) (nu (sy t))=aa (((x+pL a (r.dropLast.take i)) % 128:Nat):Int):=NW (q:=(qy t,sy t)) (Gp t) Wt hA
  refine mM (p:=.int (pL a (r.dropLast.take (i+1)):Nat)) (mQ (oE (Gd.sub (m:=3) G3 (by decide)) (ps:=[.int (x:Nat),.int (pL a (r.dropLast.take i):Nat),.int (((0:Int)+h).fmod 2),.fx (nu (qy t)),.fx (nu (sy t))]) (by kernel_rfl) (Nf _).e
   (mz ?e1 (mz ?e2 (mz ?e3 (mz ?e4 (mz ?e5 mI))))) (Gw (by exact my (.L xJ (.k xA)) [_]) (by exact (my (.i (.b xA xR) (.B (.k xA) xR)) [_]) Wt) (by exact my (.L xJ (.k xA)) [_]) (by exact (my (.i (.b xA xR) (.B (.k xA) xR)) [_]) hA) hT)) (by rw [Dz hx,yH])) ?_
  case e1=>
   refine mQ (mJ (p:=.int ((128+x:Nat):Int)) (q:=.int 128) (n9 G3 (ps:=[.str (S [128+x])]) (by kernel_rfl) (by kernel_rfl) (mz ?_ mI) Hg) mN nK) (by congr 1;exact my (.E (.s (.k (.a xR xA)) xR) (.k xA)) [_])
   walk_at "ev"
  case e2=>walk_at "ev"
  case e3=>exact mJ (p:=.int ((0:Int)+h)) (q:=.int 2) (by walk_at "ev") mN (oq (by decide))
  case e4=>walk_at "ev"
  case e5=>exact qQ (v:=u) (by walk_at "ev") (λg=>hu.rep g)
  refine mM (p:=.str (S (mS (oB a (r.dropLast.take (i+1)))))) (mQ (mJ (p:=.str (S (mS (oB a (r.dropLast.take i))))) (q:=.str (S [128+pL a (r.dropLast.take (i+1))])) ?f1 ?f2 (ox ?f3)) ?f4) ?_
  case f1=>walk_at "ev"
  case f2=>
   have hB:pL a (r.dropLast.take (i+1))<128:=zu _ ha
   refine n9 G3 (ps:=[.int ((128+pL a (r.dropLast.take (i+1)):Nat):Int)]) (by kernel_rfl) (by kernel_rfl) (mz (mQ (mJ (p:=.int 128) (q:=.int (pL a (r.dropLast.take (i+1)):Nat)) mN ?_ nV) (by congr 1)) mI) (Ca (by exact (my (.i (.b xA xR) (.l (.a xR xA) (.c 1114111))) [_]) hB))
   walk_at "ev"
  case f3=>
   rw [mS,ah,tn]
   have:=iH i r.dropLast
   have:=fT (xs:=r)
   have:(r.dropLast.take i).length<=r.dropLast.length:=ir _ _
   exact (my (.i (.l xC xN) (.i (.e xB xL) (.i (.e xD (.s xC xI)) (.i (.l xA xD) (.l (.a xA xI) xB))))) [_,_,_,_]) hl hz (by assumption) this
  case f4=>rw [Dz hx,Bg,yH,mS,mS,bi];rfl
  exact qM (by walk_at "has")
 case h5=>
  exact (bF (aN _))▸hb
end
end
local macro_rules | `(tactic| walk_at $s:str) => q0q "lk=BZ|!|B9 ?kr ?lk" s
section
open PySem.Calls PyProof.Rows PySem.Builtin.Str
theorem Ob: ∀n<256,(pq n).length<=100/\ ∀c∈pq n,vt false c=ai:=by decide+kernel
theorem JF (h:r.getLast? =aa y):(mS r).getLast? =aa (128+y):=by
 rw [mS,gA,h];rfl
theorem CL (es:List En):(es.map oa).length=es.length:=ah ..
theorem wK: ∀(es:List En) (a:Nat),(oY a es).length<=es.length
 |[],_=>aN _
 |(k,c,r)::t,a=>by
  have:=wK t (pL a r.dropLast)
  show (_++_:List En).length<=t.length+1
  rw [af]
  have:(if r.dropLast=[] then [] else [(k,c,oB a r.dropLast)]:List En).length<=1:=by split<;>simp
  exact (my (.i (.l xB xC) (.i (.l xA xI) (.l (.a xA xB) (.a xC xI)))) [_,_,_]) (by assumption) this
section
variable {w:av} {A:aX} {g g':aW} {L D:aF} {is:List aF} {σ:mX} {Λ:List (aF×List PV)}
theorem B4 (hk:pC.scope.names.lookup x=aa .cell) (hb:(bu (L+1) pC.scope.names []).lookup x=aa b):n8 (cV A g L D) x b:=
 have h:n8 (mV pC 333 A [] [] g L) x b:=uY rfl hk hb
 ⟨h.kind,h.at',.tail _ h.own,h.only⟩
theorem n8.loop (h:n8 c x b):n8 ((c.addX is).at g') x b:=⟨h.kind,h.at',h.own,h.only⟩
theorem n8.addX (h:n8 c x b):n8 (c.addX is) x b:=⟨h.kind,h.at',h.own,h.only⟩
set_option maxHeartbeats 2000000 in
theorem KT (G:Gd w 5 (cH A g L D is g')) {t h:Nat} (he:H7 es) (Vv:sl.length<=100) (hu:Fl (nu (sy t)) u) (hκ:Ap κ LN) (hs:κ.lookup ("struck":Str)=aa (.inst D))
  (hb:mT mu w (cH A g L D is g').env (cH A g L D is g').A (In (cH A g L D is g') (("left",.list (hp ((oY 0 es).map oa)))::("ahead",.int (pJ 0 es:Nat))::("value",.raw u)::("share",.fx (nu (qy t)))::("hand",.int ((0:Int)+h))::("book",.hdr (hp (es.map oa)))::κ) [(D,hp (sl++es.map r7))]) b J):
  mT mu w (cH A g L D is g').env (cH A g L D is g').A (In (cH A g L D is g') (("left",.list [])::("ahead",.int 0)::("value",.raw u)::("share",.fx (nu (qy t)))::("hand",.int ((0:Int)+h))::("book",.hdr (hp (es.map oa)))::κ) [(D,hp sl)]) (nj ri 5::b) J:=by
 have hz:=aw
 have Ue:=he.1
 refine rJ G (l:=es) (V:=λe=>.str (S (m7 e.1 e.2.1))) (bs:=λe=>[("name",.str (S (m7 e.1 e.2.1)))])
  (λi=>("left",.list (hp ((oY 0 (es.take i)).map oa)))::("ahead",.int (pJ 0 (es.take i):Nat))::("value",.raw u)::("share",.fx (nu (qy t)))::("hand",.int ((0:Int)+h))::("book",.hdr (hp (es.map oa)))::κ)
  (λi=>[(D,hp (sl++(es.take i).map r7))]) ?h1 ?h2 ?h3 ?h4 ?h5 ?h6
 case h1=>
  refine qF (mQ (w7 (Gd.sub (m:=1) G (by decide)) (ty (l:=es.map oa) (nw (by walk_at "lk"))) (C6 (by rw [CL];exact (my (.i (.l xA xK) (.l xA xQ)) [_]) Ue)) (by kernel_rfl) (H3 _).e (by kernel_rfl) (by kernel_rfl)) ?x) G.room.1 (.inl ⟨_,_,rfl⟩) (λb hb=>ax _ hb)
  case x=>rw [aB];rfl
 case h2=>rfl
 case h3=>show [(D,hp (sl++[]))]=_;rw [bK]
 case h4=>exact λe is z=>nO (.inr ⟨L+9,n8.addX (n8.loop (B4 (by rfl) (by rfl)))⟩)
 case h5=>
  rintro i ⟨k,c,r⟩ g2 U2 hx G2
  have hmem:=br hx
  have o:=he.2.1 _ hmem
  refine Nx o λo1 o2 o3 o4 o5=> ?_
  have o1:k<=6:=o1
  have o2:c∈sO:=o2
  have o3:r≠[]:=o3
  have o4:r.length<=5:=o4
  have o5: ∀x∈r,x<128:=o5
  have f:=rA k (by exact (my (.i (.l xA (.c 6)) (.b xA (.c 7))) [_]) (by assumption)) c o2
  have V9:=Ls he hmem
  have hA:=zk (es.take i) (a:=0) (by decide)
  obtain ⟨y,hy⟩: ∃y,r.getLast? =aa y:=⟨_,c7 o3⟩
  have hy5:y<128:=o5 y (List.mem_of_getLast? hy)
  have Xw:es.take (i+1)=es.take i++[(k,c,r)]:=by
   refine eE (aT.mp hx) λhi e=> ?_
   rw [dH hi,e]
  refine mM (p:=.str (S (mS r))) (mQ (Bd (Gd.sub (m:=2) G2 (by decide)) (l:=es.map oa) (ty (nw (by walk_at "lk"))) (Em (nm:=m7 k (y4 c)) (by rw [CL];exact (my (.i (.l xA xK) (.l xA xQ)) [_]) Ue) (zF (by exact (my (.i (.l xA (.c 6)) (.b xA (.c 7))) [_]) (by assumption)) f.2.2.2.2.2.1) ?g1) (by kernel_rfl) (HR _).e (by kernel_rfl) (by kernel_rfl)
   (mz (qW (p:=.str (S (m7 k c))) (T:="str") (by walk_at "ev") oj F.plainAttrs_str F.slot_str_swapcase F.type_str_swapcase (qw (wi f.2.2.2.2.1) (by rw [f.2.2.1]))) mI) yq) V9) ?_
  case g1=>
   intro q hq
   obtain ⟨e,he2,rfl⟩:=aK.mp hq
   have:=he.2.1 e he2
   exact zF (by have:=this.1;exact (my (.i (.l xA (.c 6)) (.b xA (.c 7))) [_]) this) this.2.1
  refine KZ (Gd.sub (m:=3) G2 (by decide)) (l:=sl++(es.take i).map r7) (nm:=m7 k c) (vl:=pq (128+y)) (nw (by walk_at "lk")) (nw (by walk_at "lk")) (oE (Gd.sub (m:=1) G2 (by decide)) (ps:=[.str (S [128+y])]) (by kernel_rfl) (Qw _).e (mz (nq (p:=.str (S (mS r))) (q:=.int (-1)) ?q1 (rX mN oI) (tI (JF hy))) mI) (I5 (by exact (my (.i (.b xA xR) (.b (.a xR xA) (.c 256))) [_]) hy5))) ?q2 ?q3 (Ob _ (by exact (my (.i (.b xA xR) (.b (.a xR xA) (.c 256))) [_]) hy5)) (λz h=>nomatch h) ?_
  case q1=>walk_at "ev"
  case q2=>
   rw [af,ah]
   have:=iH i es
   have:=ir i es
   exact (my (.i (.l xA xP) (.i (.l xC xK) (.i (.l xB xC) (.l (.a xA xB) xQ)))) [_,_,_]) Vv Ue this
  case q3=>
   refine ⟨?_,λx hx=>zK x (AY f.2.2.2.2.2.2.1 x hx)⟩
   rw [m7,af,a8];exact (my (.i (.l xA (.c 6)) (.l (.a xA xI) xP)) [_]) (by assumption)
  refine mM (p:=.str (S (mS []))) (m6 (by kernel_rfl)) ?_
  have a1:Ap κ ("book"::"name"::"left"::["sign","signs","ahead","text","value","share","hand"]):=hκ.mono (by decide+kernel)
  have a4:Ap (("left",.list (hp ((oY 0 (es.take i)).map oa)))::("name",.str (S (m7 k c)))::("book",.hdr (hp (es.map oa)))::κ) ["sign","signs","ahead","text","value","share","hand"]:=((a1.cons (by decide+kernel)).cons (by decide+kernel)).cons (by decide+kernel)
  refine o7 (σ':=("signs",.str (S (mS [])))::("ahead",.int (pJ 0 (es.take i):Nat))::("text",.str (S (mS r)))::("value",.raw u)::("share",.fx (nu (qy t)))::("hand",.int ((0:Int)+h))::("left",.list (hp ((oY 0 (es.take i)).map oa)))::("name",.str (S (m7 k c)))::("book",.hdr (hp (es.map oa)))::κ) (by clear a4;walk_at "has") ?_
  refine MD G2 o5 o4 hA hu (hκ:=a4) ?_
  have UB:(hp (sl++(es.take i).map r7++[(m7 k c,pq (128+y))]))=hp (sl++(es.take (i+1)).map r7):=by
   rw [Xw,bi,aJ]
   have:r7 (k,c,r)=(m7 k c,pq (128+y)):=by show (_,pq (128+r.getLast?.getD 0))=_;rw [hy];rfl
   rw [eZ,this]
  refine m9 (d:=(mS (oB (pJ 0 (es.take i)) r.dropLast)!=[])) (mY (p:=.str (S (mS (oB (pJ 0 (es.take i)) r.dropLast)))) (q:=.str (S [])) ?t1 (m6 (by kernel_rfl)) t4) (λhd=> ?yes) (λhd=> ?no)
  case t1=>walk_at "ev"
  case yes=>
   have Uk:r.dropLast≠[]:=λe=>by rw [e] at hd;exact oJ hd
   have el:oY 0 (es.take (i+1))=oY 0 (es.take i)++[(k,c,oB (pJ 0 (es.take i)) r.dropLast)]:=by rw [Xw,x9];rw [if_neg Uk]
   have ea:pJ 0 (es.take (i+1))=pL (pJ 0 (es.take i)) r.dropLast:=by rw [Xw,w3]
   rw [el,ea]
   refine mM (p:=.list (hp ((oY 0 (es.take i)++[(k,c,oB (pJ 0 (es.take i)) r.dropLast)]).map oa))) (mQ (mJ (p:=.list (hp ((oY 0 (es.take i)).map oa))) (q:=.list [.tup [.str (S (m7 k c)),.str (S (mS (oB (pJ 0 (es.take i)) r.dropLast)))]]) ?l1 (pX (mz (ou (mz ?l2 (mz ?l3 mI)) (by simp;exact (my (.i (.e xA xL) (.l xM xA)) [_]) hz)) mI) (by simp;exact (my (.i (.e xA xL) (.l xI xA)) [_]) hz)) (pN ?l4)) ?l5) ?_
   case l1=>walk_at "ev"
   case l2=>walk_at "ev"
   case l3=>walk_at "ev"
   case l4=>
    have:=wK (es.take i) 0
    have:=ir i es
    unfold hp
    rw [ah,ah];exact (my (.i (.e xB xL) (.i (.l xC xK) (.i (.l xA xD) (.i (.l xD xC) (.l (.a xA xI) xB))))) [_,_,_,_]) hz Ue (by assumption) this
   case l5=>rw [bi];unfold hp;rw [bi];rfl
   exact sr (by clear a1 a4;walk_at "has") (by rw [UB])
  case no=>
   have Uk:r.dropLast=[]:=by
    have h1:mS (oB (pJ 0 (es.take i)) r.dropLast)=[]:=by simpa using hd
    have h2:=congrArg bj h1
    rw [mS,ah,tn] at h2
    exact cC h2
   have el:oY 0 (es.take (i+1))=oY 0 (es.take i):=by rw [Xw,x9];rw [if_pos Uk,bK]
   have ea:pJ 0 (es.take (i+1))=pL (pJ 0 (es.take i)) r.dropLast:=by rw [Xw,w3]
   rw [el,ea]
   exact sr (by clear a1 a4;walk_at "has") (by rw [UB])
 case h6=>exact (bF (aN _))▸hb
end
theorem CD (s sub:Str) (hi Vu:Nat): ∀(l:List Nat) (st:Array Nat×Nat),st.1.size<=Vu->(iC l st (lQ s sub hi Vu)).run.fst.size<=Vu
 |[],st,h=>h
 |a::l,st,h=>by
  simp only [cD]
  unfold lQ
  split
  ·rename_i q
   exact CD s sub hi Vu l _ (by simp;exact (my (.i (.b xA xB) (.l (.a xA xI) xB)) [_,_]) q.1.1.1)
  ·exact CD s sub hi Vu l _ h
theorem zq (s sub:Str) (n:Nat):(jt s (gj s sub 0 s.length n) sub.length).length<=n+1:=by
 have h:(gj s sub 0 s.length n).length<=n:=by
  rw [mi]
  exact CD s sub s.length n _ (#[],0) (cx _)
 unfold jt
 simp
 omega
theorem QI (h:oW q):(vZ q).length<=21:=by
 have:=h.n1
 have:=h.v1
 unfold vZ
 rw [af,af,tc]
 exact (my (.i (.l xA (.c 7)) (.i (.l xB xK) (.l (.a (.a xA xM) (.m 3 xB)) (.c 21)))) [_,_]) (by assumption) this
theorem vT {α:Type} {f:α->List Nat}: ∀{l:List α},(∀a∈l,(f a).length<=k)->(l.flatMap f).length<=k*l.length
 |[],_=>aN _
 |a::l,h=>by
  have ih:=vT (l:=l) λx hx=>h x (.tail _ hx)
  have:=h a (.head _)
  rw [bh,af,aU,Nat.mul_add]
  exact (my (.i (.l xB xC) (.i (.l xA xD) (.l (.a xA xB) (.a xC (.r xD 1))))) [_,_,_,_]) ih this
section
variable {l:HP}
theorem LJ (h: ∀q∈l,oW q) (hl:l.length<=4):((oy l).flatMap nU).length<=94:=by
 rw [yU h,pM,af]
 have:=vT (f:=λx:List Nat=>x++[13,10]) (k:=23) (l:=l.map vZ) (λx hx=>by
  refine mR (aK.mp hx) λq hq T1=> ?_;obtain rfl:=T1
  have:=QI (h q hq)
  rw [af];exact (my (.i (.l xA (.c 21)) (.l (.a xA xM) (.c 23))) [_]) this)
 rw [ah] at this
 exact (my (.i (.l xB xK) (.i (.l xA (.m 23 xB)) (.l (.a xA xM) (.c 94)))) [_,_]) hl this
theorem OJ (h: ∀q∈l,oW q) (hl:l.length<=4):(oy l).length<=62:=by
 rw [vH,pM,af]
 have:=vT (f:=λx:List Nat=>x++[13,10]) (k:=15) (l:=l.map λq:List Nat×List Nat=>q.1++58::32::q.2) (λx hx=>by
  refine mR (aK.mp hx) λq hq T1=> ?_;obtain rfl:=T1
  have:=(h q hq).n1
  have:=(h q hq).v1
  rw [af,af];exact (my (.i (.l xA (.c 7)) (.i (.l xB xK) (.l (.a (.a xA (.a (.a xB xI) xI)) xM) (.c 15)))) [_,_]) (by assumption) this)
 rw [ah] at this
 exact (my (.i (.l xB xK) (.i (.l xA (.m 15 xB)) (.l (.a xA xM) (.c 62)))) [_,_]) hl this
theorem JB (h: ∀q∈l,oW q): ∀c∈oy l,c<256:=by
 rw [vH]
 intro c hc
 obtain ⟨x,hx,hc⟩:=cT.mp hc
 rcases ar.mp hc with hc|hc
 ·rcases ar.mp hx with hx|hx
  ·obtain ⟨q,hq,rfl⟩:=aK.mp hx
   rcases ar.mp hc with hc|hc
   ·exact (zm c ((h q hq).n3 c hc)).2.2.2
   ·rcases ao.mp hc with rfl|hc
    ·decide
    ·rcases ao.mp hc with rfl|hc
     ·decide
     ·exact ((h q hq).v3 c hc).2
  ·rw [ak.mp hx] at hc;cases hc
 ·exact (by decide: ∀c∈[13,10],c<256) c hc
theorem PZ:oy l≠[]:=by
 rw [vH,pM];simp
theorem wX (h: ∀q∈l,oW q) (hl:l.length<=4) (hw:4<=w):(pI w l).length<=95/\(pI w l).flatten.length<=190:=by
 have e:=wk w ((oy l).flatMap nU) hw ((Txt.lines (S ((oy l).flatMap nU))).length)
 rw [bF (aN _)] at e
 have e2:=Da h w
 unfold pQ at e2
 rw [e2] at e
 have:=LJ h hl
 exact (my (.i (.l xA (.a xC xI)) (.i (.l xB (.m 2 (.a xC xI))) (.i (.l xC (.c 94)) (.a (.l xA (.c 95)) (.l xB (.c 190)))))) [_,_,_]) e.1 e.2 this
theorem Ed (b:List Nat) (ls:List (List Nat)):(ls.flatMap (· ++b)).length=ls.flatten.length+ls.length*b.length:=by
 induction ls with
 |nil=>simp
 |cons x ls ih=>rw [bh,af,ih,cu,af,af,aU,iz];exact my (.e (.a (.a xA xB) (.a xC xD)) (.a (.a xA xC) (.a xD (.m 1 xB)))) [_,_,_,_]
theorem FG (h: ∀q∈l,oW q) (hl:l.length<=4) (hw:4<=w) (he:Ud.length<=2):(qR w ((oy l).flatMap nU) Ud).length<=400:=by
 rw [Au h,Ed]
 have:=wX h hl hw
 have:=gq this.1 he
 omega
theorem Fw (p:List Nat):(dd p).length<=p.length+1:=by
 unfold dd;split<;>simp
theorem Ot (ps:List (List Nat)):(ps.map dd).flatten.length<=ps.flatten.length+ps.length:=by
 induction ps with
 |nil=>simp
 |cons p ps ih=>have:=Fw p;simp at ih ⊢;exact (my (.i (.l xA (.a xC xI)) (.i (.l xB (.a xD xE)) (.l (.a xA xB) (.a (.a xC xD) (.a xE xI))))) [_,_,_,_,_]) this ih
theorem KX (h: ∀q∈l,oW q) (hl:l.length<=4) (hw:12<=w) (he:sW Ud):(ul (qR w ((oy l).flatMap nU) Ud)).length<=1000/\ul (qR w ((oy l).flatMap nU) Ud)≠[]:=by
 rw [Am hw h he]
 constructor
 ·rw [Ed,ah]
  have:=wX h hl (w:=w) (by exact (my (.i (.l (.c 12) xA) (.l xK xA)) [_]) hw)
  have:=Ot (pI w l)
  show _+_*2<=_
  omega
 ·unfold pI
  rw [bi,pM];simp
theorem OX (h: ∀q∈l,oW q):D7 l↔l.length<=100:=by
 refine ⟨λq=>q.1,λq=>⟨q,λp hp=> ?_⟩⟩
 have:=h p hp
 exact ⟨by have:=this.n1;exact (my (.i (.l xA (.c 7)) (.l xA xP)) [_]) this,by have:=this.v1;exact (my (.i (.l xA xK) (.l xA xP)) [_]) this⟩
theorem JO: ∀{ns:List Int},ns≠[]-> ∃M∈ns,∀a∈ns,a<=M
 |[],h=>absurd rfl h
 |[a],_=>⟨a,.head _,λb hb=>by exact (ak.mp hb)▸(my (.L xA xA) [] [_])⟩
 |a::b::t,_=>by
  refine mR (JO (ns:=b::t) (fE _ _)) λM h1 h2=> ?_
  by_cases h:a<=M
  ·refine ⟨M,.tail _ h1,λc hc=> ?_⟩
   rcases ao.mp hc with rfl|hc
   ·exact h
   ·exact h2 c hc
  ·refine ⟨a,.head _,λc hc=> ?_⟩
   rcases ao.mp hc with rfl|hc
   ·exact my (.L xA xA) [] [_]
   ·have:=h2 c hc;exact (my (.i (.n (.L xB xC)) (.i (.L xA xC) (.L xA xB))) [] [_,_,_]) h this
end
noncomputable def vh (e:En):En:=(if e.1=0 then 0 else e.1+1,e.2.1,e.2.2)
theorem R7 (k:Nat) (hc:c∈sO):dd (m7 k c)=m7 (if k=0 then 0 else k+1) c:=by
 cases k with
 |zero=>
  have:c≠46:=λe=>by rw [e] at hc;exact absurd hc (by decide)
  unfold dd m7;simp [this]
 |succ k=>unfold dd m7;simp [cq]
theorem F8: ∀j<5,1<=j->qE (.fx (nu j)) (.fx (nu j))=aa (.fx (nu (2*j)))/\nR (.fx (nu j)) (.fx (nu j))=aa (.fx (fN 0))/\zd (nu (2*j)) (fN 2)=aa (nu j)/\sU (nu j) (nu j)=ai:=by
 intro j h1 h2
 match j,h1,h2 with
 |1,_,_=>exact ⟨by kernel_rfl,by kernel_rfl,by kernel_rfl,by kernel_rfl⟩
 |2,_,_=>exact ⟨by kernel_rfl,by kernel_rfl,by kernel_rfl,by kernel_rfl⟩
 |3,_,_=>exact ⟨by kernel_rfl,by kernel_rfl,by kernel_rfl,by kernel_rfl⟩
 |4,_,_=>exact ⟨by kernel_rfl,by kernel_rfl,by kernel_rfl,by kernel_rfl⟩
theorem EG (t:Nat):sy t<5/\1<=sy t:=by have:=fL (t/2) (show 4>0 by decide);exact my (.a (.b (.s xK (.e (.d xA 2) 4)) xN) (.l xI (.s xK (.e (.d xA 2) 4)))) [_]
theorem RS (h: ∀q∈l,oW q) (h4:l.length<=4):E9 l:=by
 refine ⟨by exact (my (.i (.l xA xK) (.l xA xP)) [_]) h4,λq hq=>⟨⟨?_,λc hc=>zK c ((h q hq).n3 c hc)⟩,⟨?_,λc hc=> ?_⟩⟩⟩
 ·have:=(h q hq).n1;exact (my (.i (.l xA (.c 7)) (.l xA xP)) [_]) this
 ·have:=(h q hq).v1;exact (my (.i (.l xA xK) (.l xA xP)) [_]) this
 ·have:=(h q hq).v3 c hc;exact D8 c this.2 this.1
section
variable {w:av} {A:aX} {g g':aW} {L D:aF} {is:List aF} {σ:mX} {Λ:List (aF×List PV)}
set_option maxHeartbeats 2000000 in
theorem OA (G:Gd w 5 (cH A g L D is g')) (hl: ∀q∈l,oW q) (h4:l.length<=4) (hW:12<=W) (Wv:W<=100) (he:sW Ud)
  (x1:σ.lookup ("left":Str)=aa (.list (hp l))) (x4:σ.lookup ("width":Str)=aa (.int (W:Nat))) (x5:σ.lookup ("eol":Str)=aa (.str (S Ud)))
  (hb:pE mu w (In (cH A g L D is g') (("mail",.str (S (qR W ((oy l).flatMap nU) Ud)))::σ) Λ) (cH A g L D is g').env (cH A g L D is g').A b J):pE mu w (In (cH A g L D is g') σ Λ) (cH A g L D is g').env (cH A g L D is g').A (nj ri 6::b) J:=by
 have hz:=aw
 refine ni (tX he) λz z z z z e2=> ?_
 have hs62:=OJ hl h4
 refine pS (p:=.str (S (qR W ((oy l).flatMap nU) Ud))) (oE (Gd.sub (m:=2) G (by decide)) (ps:=[.str (S (oy l)),.int (W:Nat),.str (S Ud)]) (by kernel_rfl) (B5 _).e
  (mz (CH (Gd.sub (m:=3) G (by decide)) (l:=l) (ty (Cm (Gd.sub (m:=3) G (by decide)) (nw x1) (RS hl h4))) ((OX hl).mpr (by exact (my (.i (.l xA xK) (.l xA xP)) [_]) h4))) (mz (nw x4) (mz (nw x5) mI)))
  (FV PZ (JB hl) (by exact (my (.i (.l xA (.c 62)) (.l xA (.c 300))) [_]) hs62) e2 (by exact (my (.i (.l (.c 12) xA) (.l xK xA)) [_]) hW) (by exact (my (.i (.l xA xP) (.l xA xQ)) [_]) Wv) (Jo hl))) hb
theorem Es (G:Gd w 5 c) (hl: ∀q∈l,oW q) (h4:l.length<=4) (hW:12<=W) (he:sW Ud)
  (h1:Ev mu w (fs c σ Λ) o (.str (S (qR W ((oy l).flatMap nU) Ud)))) (h2:Ev mu w (fs c σ Λ) e (.str (S Ud)))
  (Uq:autoParam (db o "split" c.env (bJ o c.env)=bJ o c.env) XZ) (UT:autoParam (aE [e] c.env=(false,bJ e c.env)::aE [] c.env) XZ) (Uv:autoParam ((ap.endLine==pos.line)=ai) XZ)
  (U1:autoParam (((fb pos (aE [e] c.env)).all (λx=> !x.1)&&(cM pos (bR [] c.env)).all (λx=>x.1.isSome)&&decide (([e]:List Expr).length+([]:List eW).length+(if ([]:List eW).isEmpty then 0 else 1)<30))=ai) XZ):
  Ev mu w (fs c σ Λ) (.Call (.Attribute o "split" ap) [e] [] pos) (.list ((pI W l++[[]]).map λp=>.str (S p))):=by
 have hz:=aw
 refine ni (tX he) λc0 t0 e0 z z e2=> ?_
 have hm:=FG hl h4 (w:=W) (by exact (my (.i (.l (.c 12) xA) (.l xK xA)) [_]) hW) e2
 have hs:Txt.split (S (qR W ((oy l).flatMap nU) Ud)) (S Ud)=(pI W l++[[]]).map S:=I9 hW hl he
 have hp:=zq (S (qR W ((oy l).flatMap nU) Ud)) (S Ud) ((S (qR W ((oy l).flatMap nU) Ud)).length+1)
 rw [mW,mW] at hp
 refine rg (p:=.str (S (qR W ((oy l).flatMap nU) Ud))) (T:="str") h1 oj F.plainAttrs_str F.slot_str_split F.type_str_split (mz h2 mI UT) (qw (yS ?a ?b ?c) ?d) Uq U1 Uv UT
 case a=>rw [mW,e0];rfl
 case b=>rw [mW];omega
 case c=>rw [mW,mW];omega
 case d=>rw [hs,aB];rfl
set_option maxHeartbeats 4000000 in
theorem KH (G:Gd w 5 (cH A g L D is g')) (S2:tg g') (hl: ∀q∈l,oW q) (h4:l.length<=4) (hW:12<=W) (Wv:W<=100) (he:sW Ud) (ha:a<128) (hu:Fl (nu (sy t)) u)
  (x1:σ.lookup ("mail":Str)=aa (.str (S (qR W ((oy l).flatMap nU) Ud)))) (x2:σ.lookup ("ahead":Str)=aa (.int (a:Nat))) (x3:σ.lookup ("value":Str)=aa (.raw u)) (x4:σ.lookup ("width":Str)=aa (.int (W:Nat))) (x5:σ.lookup ("eol":Str)=aa (.str (S Ud)))
  (hb:pE mu w (In (cH A g L D is g') σ Λ) (cH A g L D is g').env (cH A g L D is g').A b J):pE mu w (In (cH A g L D is g') σ Λ) (cH A g L D is g').env (cH A g L D is g').A (nj ri 7::b) J:=by
 have hz:=aw
 have WX:=wX hl h4 (w:=W) (by exact (my (.i (.l (.c 12) xA) (.l xK xA)) [_]) hW)
 have hbr:=vL hW hl
 have hns:((pI W l++[[]]).map λp:List Nat=>((p.length:Nat):Int))≠[]:=by simp
 refine mR (JO hns) λM hM Vm=> ?_
 have hMW:M<=W:=by
  obtain ⟨p,hp,rfl⟩:=aK.mp hM
  rcases ar.mp hp with hp|hp
  ·have:=(hbr p hp).2.1;exact (my (.i (.l xA xB) (.L (.k xA) (.k xB))) [_,_]) this
  ·rw [ak.mp hp];exact my (.L xJ (.k xA)) [_]
 have hd:decide (M>(W:Int))=false:=decide_eq_false (by exact (my (.i (.L xA (.k xA)) (.n (.B (.k xA) xA))) [_] [_]) hMW)
 refine Ck (F8 (sy t) (EG t).1 (EG t).2) λq0 q1 q2 q3=> ?_
 refine Hh (d:=false) (QY ?x ?y) (λh=>by exact oJ h) (λz=>hb)
 case x=>
  refine mY (p:=.int M) (q:=.int (W:Nat)) (n9 G (ps:=[.list (((pI W l++[[]]).map λp:List Nat=>((p.length:Nat):Int)).map PV.int)]) (by kernel_rfl) (by kernel_rfl) (mz ?c mI) (Oe G.room.1 hM Vm)) (nw x4) (by exact hd▸zs)
  case c=>
   refine .mk λs i=>Ev.run (mQ (pG (l:=pI W l++[[]]) (V:=λp=>.str (S p)) (bs:=λp=>[("line",.str (S p))]) (cl:=[]) [] (λz=>ai) (λp:List Nat=>.int (p.length:Nat))
    ?k1 nJ (λz z z z z=>nO) (λz z z z z z z=>og) ?k5 ?k6 (λz z=>rfl) (by rfl) trivial (by rfl) (by decide+kernel)) ?k12) s i
   case k1=>exact qF (Es G hl h4 hW he (nw x1) (nw x5)) G.room.1 (.inl ⟨_,_,rfl⟩) (λz h=>nomatch h)
   case k5=>
    intro p C g2 T6 hp _ k hf
    have hO:=G.offX i
    have G1:=Gd.comp G hO k hf rfl
    refine n9 G1 (ps:=[.str (S p)]) (by kernel_rfl) (by kernel_rfl) (mz ?_ mI) (qw (uR ?_) (by rw [mW]))
    ·walk_at "ev"
    ·rw [mW]
     rcases ar.mp hp with hp|hp
     ·have:=(hbr p hp).2.1;exact (my (.i (.l xB xP) (.i (.l xA xB) (.l xA (.c 1000000)))) [_,_]) Wv this
     ·rw [ak.mp hp];decide
   case k6=>rw [af];exact (my (.i (.e xB xL) (.i (.l xA (.c 95)) (.l (.a xA xI) xB))) [_,_]) hz WX.1
   case k12=>rw [wd,aB];rfl
 case y=>
  refine O4 (b:=ai) (N2 (p:=.bool ai) (IF (Gd.sub (m:=3) G (by decide)) (I₀:=tg) (ps:=[.raw u,.fx (po a)]) (by kernel_rfl) (M7 _).e (mz (nw x3) (mz ?h mI)) (IP hu q0 q1 q2 q3) S2 (λz z=>tg.keep)) ?t)
  case h=>exact oE (Gd.sub (m:=2) G (by decide)) (ps:=[.int (a:Nat)]) (by kernel_rfl) (DU _).e (mz (nw x2) mI) (AR (by exact my (.L xJ (.k xA)) [_]) (by exact (my (.i (.b xA xR) (.B (.k xA) xR)) [_]) ha) (D2 ha))
  case t=>exact qu
end
theorem Qz (h: ∀c∈p,c∈za): ∀c∈dd p,c∈za:=by
 unfold dd;split
 ·intro c hc
  rcases ao.mp hc with rfl|hc
  ·decide
  ·exact h c hc
 ·exact h
def DQ (q:List Nat×List Nat):List Nat×List Nat:=(dd q.1,q.2)
theorem Po {l:HP} (h: ∀q∈l,oW q) (h4:l.length<=4):E9 (l.map DQ):=by
 refine ⟨by rw [ah];exact (my (.i (.l xA xK) (.l xA xP)) [_]) h4,λq' W8=> ?_⟩
 refine mR (aK.mp W8) λq hq T1=> ?_;obtain rfl:=T1
 have hi:=h q hq
 refine ⟨⟨?_,λc hc=>zK c (Qz hi.n3 c hc)⟩,⟨?_,λc hc=> ?_⟩⟩
 ·have:=hi.n1;have:=Fw q.1;exact (my (.i (.l xB (.c 7)) (.i (.l xA (.a xB xI)) (.l xA xP))) [_,_]) (by assumption) this
 ·have:=hi.v1;exact (my (.i (.l xA xK) (.l xA xP)) [_]) this
 ·have:=hi.v3 c hc;exact D8 c this.2 this.1
theorem GS (h:oW q):(rm q).length<=14:=by
 have:=h.n1;have:=h.v1;have:=Fw q.1
 unfold rm
 rw [af];exact (my (.i (.l xC (.c 7)) (.i (.l xB xK) (.i (.l xA (.a xC xI)) (.l (.a xA (.a (.a xB xI) xI)) (.c 14))))) [_,_,_]) (by assumption) (by assumption) this
theorem Oa {l:HP} (h: ∀q∈l,oW q) (h4:l.length<=4) (hm:mark.length<=2):(jn mark (l.map rm++[[],[]])).length<=66:=by
 rw [yj,af]
 have:=vT (f:=λx:List Nat=>x++mark) (k:=16) (l:=l.map rm) (λx hx=>by
  refine mR (aK.mp hx) λq hq T1=> ?_;obtain rfl:=T1
  have:=GS (h q hq)
  rw [af];exact (my (.i (.l xB xM) (.i (.l xA (.c 14)) (.l (.a xA xB) (.c 16)))) [_,_]) hm this)
 rw [ah] at this
 exact (my (.i (.l xC xK) (.i (.l xB xM) (.i (.l xA (.m 16 xC)) (.l (.a xA xB) (.c 66))))) [_,_,_]) h4 hm this
theorem Pa (h1:e.1<=6) (h2:e.2.1∈sO) (h3:e.2.2≠[]) (h4:e.2.2.length<=4) (h5: ∀x∈e.2.2,x<128):oW (oa e) where
 n1:=by show (m7 _ _).length<=7;rw [m7,af,a8];show _+1<=_;exact (my (.i (.l xA (.c 6)) (.l (.a xA xI) (.c 7))) [_]) h1
 n2:=by show m7 _ _≠[];unfold m7;simp
 n3:=AY (rA 0 (by decide) _ h2).2.2.2.2.2.2.1
 v1:=by show (mS _).length<=4;rw [mS,ah];exact h4
 v2:=by show mS _≠[];unfold mS;simpa using h3
 v3:=tW h5
theorem A9: ∀(es:List En) (a:Nat),(∀e∈es,Ll e)-> ∀e∈oY a es,e.1<=6/\e.2.1∈sO/\e.2.2≠[]/\e.2.2.length<=4/\ ∀x∈e.2.2,x<128
 |[],_,_,_,h=>nomatch h
 |(k,c,r)::t,a,hok,e,h=>by
  rcases ar.mp h with h|h
  ·by_cases hr:r.dropLast=[]
   ·rw [if_pos hr] at h;cases h
   ·rw [if_neg hr] at h
    rw [ak.mp h]
    have o:=hok _ (.head _)
    refine ⟨o.1,o.2.1,λq=>hr ?_,?_,Aq _ _⟩
    ·have:=congrArg bj q
     rw [tn] at this
     exact cC this
    ·show (oB _ _).length<=4
     rw [tn,fT]
     have:r.length<=5:=o.2.2.2.1
     exact (my (.i (.l xA xN) (.l (.s xA xI) xK)) [_]) this
  ·exact A9 t _ (λx hx=>hok x (.tail _ hx)) e h
theorem HQ (hok: ∀e∈es,Ll e):((oY 0 es).map oa).map DQ=((oY 0 es).map vh).map oa:=by
 rw [aB,aB]
 refine aV λe he=> ?_
 refine rQ (A9 es 0 hok e he) λz h2 z=> ?_
 show (dd (m7 e.1 e.2.1),mS e.2.2)=(m7 _ _,mS e.2.2)
 rw [R7 _ h2];rfl
section
variable {w:av} {A:aX} {g g':aW} {L D:aF} {is:List aF} {σ:mX} {Λ:List (aF×List PV)}
set_option maxHeartbeats 4000000 in
theorem Ii (G:Gd w 5 (cH A g L D is g')) (hl: ∀q∈l,oW q) (h4:l.length<=4) (hW:12<=W) (Wv:W<=100) (he:sW Ud) (hm:sW mark)
  (x1:σ.lookup ("mail":Str)=aa (.str (S (qR W ((oy l).flatMap nU) Ud)))) (x5:σ.lookup ("mark":Str)=aa (.str (S mark)))
  (hb:mT mu w (cH A g L D is g').env (cH A g L D is g').A (In (cH A g L D is g') (("book",.hdr (hp (l.map DQ)))::σ) Λ) b J):mT mu w (cH A g L D is g').env (cH A g L D is g').A (In (cH A g L D is g') σ Λ) (nj ri 8::b) J:=by
 have hz:=aw
 refine ni (tX he) λz z z z z e2=> ?_
 refine ni (tX hm) λc0 t0 e0 z z m2=> ?_
 have hq:=KX hl h4 hW he
 have hM:=FG hl h4 (w:=W) (by exact (my (.i (.l (.c 12) xA) (.l xK xA)) [_]) hW) e2
 have hJ:=Oa hl h4 m2
 refine mM (p:=.hdr (hp (l.map DQ))) (Cm (Gd.sub (m:=3) G (by decide)) (.mk λs i=>Ev.run (mQ (pG (l:=l) (V:=λq=>.str (S (rm q))) (bs:=λq=>[("line",.str (S (rm q)))]) (cl:=[]) [] (λz=>ai) (λq=>.tup [.str (S (dd q.1)),.str (S q.2)])
    ?k1 nJ (λz z z z z=>nO) (λz z z z z z z=>og) ?k5 (by exact (my (.i (.l xA xK) (.i (.e xB xL) (.l xA xB))) [_,_]) h4 hz) (λz z=>rfl) (by rfl) trivial (by rfl) (by decide+kernel)) ?k12) s i) (Po hl h4)) hb (.inr ⟨L+10,n8.loop (B4 (by rfl) (by rfl))⟩)
 case k1=>
  refine qF (mQ (tA (ps:=(l.map rm++[[],[]]).map λp=>.str (S p)) (lo:=az) (hi:=aa (-2)) ?v rG (nY (rX mN oI)) ?len) ?e) G.room.1 (.inl ⟨_,_,rfl⟩) (λz h=>nomatch h)
  case len=>rw [ah,af,ah];exact (my (.i (.l xA xK) (.i (.e xB xL) (.l (.a xA xM) xB))) [_,_]) h4 hz
  case e=>
   rw [show (-2:Int)= -((2:Nat):Int) from rfl,BC _ 2 (by decide),ah,af,ah,bi]
   rw [show l.length+([[],[]]:List (List Nat)).length - 2=((l.map rm).map λp=>PV.str (S p)).length by rw [ah,ah];exact my (.e (.s (.a xA xM) xM) xA) [_],gk,aB]
   rfl
  case v=>
   have hs:Txt.split (S (jn mark (l.map rm++[[],[]]))) (S mark)=(l.map rm++[[],[]]).map S:=Jc hl hm
   have V2:=zq (S (jn mark (l.map rm++[[],[]]))) (S mark) ((S (jn mark (l.map rm++[[],[]]))).length+1)
   rw [mW,mW] at V2
   have hdec:=Gs hW hl he mark
   refine rg (p:=.str (S (jn mark (l.map rm++[[],[]])))) (T:="str") (mQ (oE (Gd.sub (m:=2) G (by decide)) (ps:=[.str (S (ul (qR W ((oy l).flatMap nU) Ud))),.str (S mark)]) (by kernel_rfl) (CC _).e
    (mz (oE (Gd.sub (m:=1) G (by decide)) (ps:=[.str (S (qR W ((oy l).flatMap nU) Ud))]) (by kernel_rfl) (IM _).e (mz (nw x1) mI) (xf hM)) (mz (nw x5) mI)) (wV hq.2 hq.1 m2)) (by rw [hdec])) oj F.plainAttrs_str F.slot_str_split F.type_str_split (mz (nw x5) mI) (qw (yS ?a ?b ?c) ?d)
   case a=>rw [mW,e0];rfl
   case b=>rw [mW];exact (my (.i (.e xB xL) (.i (.l xA (.c 66)) (.l xA xB))) [_,_]) hz hJ
   case c=>rw [mW,mW];exact (my (.i (.e xB xL) (.i (.l xC (.c 66)) (.i (.l xA (.a (.a xC xI) xI)) (.l xA xB)))) [_,_,_]) hz hJ V2
   case d=>rw [hs,aB];rfl
 case k5=>
  intro q C g2 T6 hp _ k hf
  have hO:=G.offX i
  have G1:=Gd.comp G hO k hf rfl
  have hls:Txt.split (S (rm q)) (S [58,32])=[S (dd q.1),S q.2]:=HY (hl q hp)
  have V2:=zq (S (rm q)) (S [58,32]) ((S (rm q)).length+1)
  rw [mW,mW] at V2
  have hi:=GS (hl q hp)
  refine n9 G1 (ps:=[.list [.str (S (dd q.1)),.str (S q.2)]]) (by kernel_rfl) (by kernel_rfl) (mz ?t mI) (Kd (by simp)) (.inr ⟨_,rfl⟩)
  case t=>
   refine rg (p:=.str (S (rm q))) (T:="str") (by walk_at "ev") oj F.plainAttrs_str F.slot_str_split F.type_str_split (mz (p:=.str (S [58,32])) (m6 (by kernel_rfl)) mI) (qw (yS ?a ?b ?c) ?d)
   case a=>rfl
   case b=>rw [mW];exact (my (.i (.e xB xL) (.i (.l xA (.c 14)) (.l xA xB))) [_,_]) hz hi
   case c=>rw [mW,mW];exact (my (.i (.e xB xL) (.i (.l xA (.a (.a xC xI) xI)) (.i (.l xC (.c 14)) (.l xA xB)))) [_,_,_]) hz V2 hi
   case d=>rw [hls];rfl
 case k12=>rw [wd];unfold hp;rw [aB];rfl
end
noncomputable def v8 (e0:List En):Nat->List En
 |0=>e0
 |i+1=>(oY 0 (v8 e0 i)).map vh
noncomputable def yJ (e0:List En):Nat->HP
 |0=>[]
 |i+1=>yJ e0 i++(v8 e0 i).map r7
def zY (i:Nat) (es:List En):Prop:=es.length<=4/\(∀e∈es,e.1<=2+i/\e.2.1∈sO/\e.2.2≠[]/\e.2.2.length+i<=5/\ ∀x∈e.2.2,x<128)/\es.Pairwise λa b=>zn a≠zn b
theorem zY.ok (h:zY i es) (hi:i<5):H7 es:=
 ⟨h.1,λe he=>by have:=h.2.1 e he;exact ⟨by exact (my (.i (.b xB xN) (.i (.l xA (.a xM xB)) (.l xA (.c 6)))) [_,_]) hi this.1,this.2.1,this.2.2.1,by exact (my (.i (.l (.a xA xB) xN) (.l xA xN)) [_,_]) this.2.2.2.1,this.2.2.2.2⟩,h.2.2⟩
theorem yQ: ∀(es:List En) (a:Nat),∀e∈oY a es,∃e'∈es,∃b,e=(e'.1,e'.2.1,oB b e'.2.2.dropLast)/\e'.2.2.dropLast≠[]
 |[],_,_,h=>nomatch h
 |(k,c,r)::t,a,e,h=>by
  rcases ar.mp h with h|h
  ·by_cases hr:r.dropLast=[]
   ·rw [if_pos hr] at h;cases h
   ·rw [if_neg hr] at h
    exact ⟨_,.head _,a,ak.mp h,hr⟩
  ·refine mR (yQ t _ e h) λe' h1 h2=> ?_
   exact ⟨e',.tail _ h1,h2⟩
theorem EN: ∀(es:List En) (a:Nat),(es.Pairwise λa b=>zn a≠zn b)->(oY a es).Pairwise λa b=>zn a≠zn b
 |[],_,_=>.nil
 |(k,c,r)::t,a,h=>by
  refine eA (dU.mp h) λh1 h2=> ?_
  have ih:=EN t (pL a r.dropLast) h2
  show List.Pairwise _ (_++_)
  by_cases hr:r.dropLast=[]
  ·rw [if_pos hr];exact ih
  ·rw [if_neg hr]
   refine dU.mpr ⟨λe he=> ?_,ih⟩
   refine M5 (yQ t _ e he) λe' m b T1 z=> ?_;obtain rfl:=T1
   exact h1 e' m
theorem zY.next (h:zY i es):zY (i+1) ((oY 0 es).map vh):=by
 refine ⟨by rw [ah];exact ch (wK es 0) h.1,λe he=> ?_,?_⟩
 ·refine mR (aK.mp he) λe1 m1 T1=> ?_;obtain rfl:=T1
  refine M5 (yQ es 0 e1 m1) λe' m b T1 Uk=> ?_;obtain rfl:=T1
  have o:=h.2.1 e' m
  refine ⟨?_,o.2.1,λq=>Uk ?_,?_,Aq _ _⟩
  ·show (if e'.1=0 then 0 else e'.1+1)<=_
   split<;>(first|exact (my (.i (.l xA (.a xM xB)) (.l (.a xA xI) (.a xM (.a xB xI)))) [_,_]) o.1|exact my (.l xJ (.a xM (.a xA xI))) [_])
  ·have:=congrArg bj (show oB b e'.2.2.dropLast=[] from q)
   rw [tn] at this
   exact cC this
  ·show (oB _ _).length+_<=5
   rw [tn,fT]
   have:e'.2.2≠[]:=o.2.2.1
   have:0<e'.2.2.length:=dP.mpr this
   exact (my (.i (.l (.a xA xB) xN) (.i (.b xJ xA) (.l (.a (.s xA xI) (.a xB xI)) xN))) [_,_]) o.2.2.2.1 this
 ·rw [mo];exact EN es 0 h.2.2
theorem B7 (h:zY 0 e0): ∀i,zY i (v8 e0 i)
 |0=>h
 |i+1=>(B7 h i).next
theorem ER (h:zY 0 e0): ∀i,(yJ e0 i).length<=4*i
 |0=>aN _
 |i+1=>by
  have:=ER h i
  have:=(B7 h i).1
  show (yJ e0 i++_).length<=_
  rw [af,ah];exact (my (.i (.l xA (.m 4 xC)) (.i (.l xB xK) (.l (.a xA xB) (.m 4 (.a xC xI))))) [_,_,_]) (by assumption) this
theorem tg.hide (a:tg h):tg (hideAll h [330]):=let ⟨m,n,e⟩:=a;⟨m,n.at' λo e=>sv (by decide) e,e⟩
section
variable {w:av} {A:aX} {g g':aW} {L D:aF} {is:List aF} {σ:mX} {Λ:List (aF×List PV)}
set_option maxHeartbeats 2000000 in
theorem ON (G:Gd w 5 (cH A g L D is g')) (S2:tg g') {dr h W:Nat} (he:H7 es) (Vv:sl.length<=100) (hκ:Ap κ LN) (hs:κ.lookup ("struck":Str)=aa (.inst D)) (hd:κ.lookup ("dress":Str)=aa (.int (dr:Nat)))
  (hE:sW Ud) (hm:sW mark) (hW:12<=W) (Wv:W<=100) (x4:κ.lookup ("width":Str)=aa (.int (W:Nat))) (x5:κ.lookup ("eol":Str)=aa (.str (S Ud))) (x6:κ.lookup ("mark":Str)=aa (.str (S mark))) {J:hF->aW->Prop}:
  mT mu w (cH A g L D is g').env (cH A g L D is g').A (In (cH A g L D is g') (("hand",.int ((0:Int)+h))::("book",.hdr (hp (es.map oa)))::κ) [(D,hp sl)])
   (nj ri 0::nj ri 1::nj ri 2::nj ri 3::nj ri 4::nj ri 5::nj ri 6::nj ri 7::nj ri 8::[])
   (λfl hh=>((fl= .next\/fl= .cont)/\In (cH A g L D is g') (("book",.hdr (hp (((oY 0 es).map vh).map oa)))::κ) [(D,hp (sl++es.map r7))] hh)\/((∃v,fl= .ret v)/\J fl hh)):=by
 have hz:=aw
 refine NX G (dr:=dr) (h:=h) (by walk_at "lk") (by walk_at "lk") λu hu=> ?_
 generalize ht:dr/69984+h=t at*
 refine pS (p:=.int 0) mN ?_
 refine pS (p:=.list []) (pX mI (cx _)) ?_
 have a1:Ap κ LN:=hκ
 refine Lf (I':=In (cH A g L D is g') (("left",.list (hp ((oY 0 es).map oa)))::("ahead",.int (pJ 0 es:Nat))::("value",.raw u)::("share",.fx (nu (qy t)))::("hand",.int ((0:Int)+h))::("book",.hdr (hp (es.map oa)))::κ) [(D,hp (sl++es.map r7))])
  (o7 (σ':=("left",.list [])::("ahead",.int 0)::("value",.raw u)::("share",.fx (nu (qy t)))::("hand",.int ((0:Int)+h))::("book",.hdr (hp (es.map oa)))::κ) (by clear a1;walk_at "has") (KT G he Vv hu hκ hs (sJ λg i=>i))) ?_
 have hl: ∀q∈(oY 0 es).map oa,oW q:=λq hq=>by
  obtain ⟨e,m,rfl⟩:=aK.mp hq
  have:=A9 es 0 he.2.1 e m
  exact Pa this.1 this.2.1 this.2.2.1 this.2.2.2.1 this.2.2.2.2
 have h4:((oY 0 es).map oa).length<=4:=by rw [ah];exact ch (wK es 0) he.1
 refine OA G hl h4 hW Wv hE (by walk_at "lk") (by walk_at "lk") (by walk_at "lk") ?_
 refine KH G S2 hl h4 hW Wv hE (a:=pJ 0 es) (t:=t) (zk es (by decide)) hu (by walk_at "lk") (by walk_at "lk") (by walk_at "lk") (by walk_at "lk") (by walk_at "lk") ?_
 refine pE.of (Ii G hl h4 hW Wv hE hm (by walk_at "lk") (by walk_at "lk") ?_)
 rw [HQ he.2.1]
 exact sr (by clear a1;walk_at "has") rfl
end
section
variable {w:av} {A:aX} {g g':aW} {L D:aF} {is:List aF} {σ:mX} {Λ:List (aF×List PV)}
set_option maxHeartbeats 2000000 in
theorem K5 (G:Gd w 5 (cV A g L D)) (S2:tg g) {dr H W:Nat} (he:zY 0 e0) (hH:H<=5) (hκ:Ap κ LN) (hs:κ.lookup ("struck":Str)=aa (.inst D)) (hd:κ.lookup ("dress":Str)=aa (.int (dr:Nat)))
  (hE:sW Ud) (hm:sW mark) (hW:12<=W) (Wv:W<=100) (x4:κ.lookup ("width":Str)=aa (.int (W:Nat))) (x5:κ.lookup ("eol":Str)=aa (.str (S Ud))) (x6:κ.lookup ("mark":Str)=aa (.str (S mark)))
  {sz:List Int} (GQ:sz[3]? =aa (H:Int)) (x7:κ.lookup ("sizes":Str)=aa (.list (sz.map PV.int)))
  (hb:mT mu w (cV A g L D).env (cV A g L D).A (In (cV A g L D) (("book",.hdr (hp ((v8 e0 H).map oa)))::κ) [(D,hp (yJ e0 H))]) b J):
  mT mu w (cV A g L D).env (cV A g L D).A (In (cV A g L D) (("book",.hdr (hp (e0.map oa)))::κ) [(D,[])]) (nj nA 13::b) J:=by
 have hz:=aw
 refine v0 G (l:=ag H) (V:=λi:Nat=>.int ((0:Int)+i)) (bs:=λi=>[("hand",.int ((0:Int)+i))]) (λi=>("book",.hdr (hp ((v8 e0 i).map oa)))::κ) (λi=>[(D,hp (yJ e0 i))]) ?h1 rfl rfl (λa is z=>nO) ?h2 ?h3
 case h1=>
  refine pW G.zero (n:=H) (nq (p:=.list (sz.map PV.int)) (q:=.int 3) (nw (by walk_at "lk")) mN (m5 (by exact my (.L xJ xO) [] []) ?_ (by exact my (.B xO xS) []))) (by exact (my (.i (.l xA xN) (.l xA xQ)) [_]) hH) (by rfl)
  show (sz.map PV.int)[3]? =_
  rw [a7,GQ];rfl
 case h2=>
  intro i x g2 U2 hx G2 kg
  have hx':x=i/\i<H:=by
   have:=aT.mp hx
   obtain ⟨h1,h2⟩:=this
   rw [be] at h1
   rw [cU] at h2
   exact ⟨h2.symm,h1⟩
  refine eA hx' ?_;clear hx';intro T1 Un;obtain rfl:=T1
  have S3:tg g2:=S2.keep kg
  exact ON G2 S3 ((B7 he x).ok (by exact (my (.i (.l xB xN) (.i (.b xA xB) (.b xA xN))) [_,_]) hH Un)) (by have:=ER he x;exact (my (.i (.l xB xN) (.i (.b xC xB) (.i (.l xA (.m 4 xC)) (.l xA xP)))) [_,_,_]) hH Un this) hκ hs hd hE hm hW Wv x4 x5 x6
 case h3=>exact be▸hb
end
noncomputable def sR (rs:Nat->List Nat) (n:Nat):List IL:=(ag n).map λk=>(rs k).map λx:Nat=>(x:Int)
def sC (rs:Nat->List Nat) (n:Nat):IL:=zG (sR rs (n+1))
def vC (rs:Nat->List Nat):PV:=.list ((ag 4).map λn=>il (sC rs n))
theorem Ma (rs:Nat->List Nat):uT rs= .list ((sR rs 4).map il):=by
 unfold uT sR
 rw [aB]
 congr 1
 refine aV λn z=> ?_
 show _=PV.list (eV PV.int (eV _ _))
 rw [aB];rfl
theorem H4 (rs:Nat->List Nat) (h:n<4):(sR rs 4).take (n+1)=sR rs (n+1):=by
 unfold sR
 rw [<-iK,List.take_range,fW (by exact (my (.i (.b xA xK) (.l (.a xA xI) xK)) [_]) h)]
section
variable {w:av} {A:aX} {g g':aW} {L D:aF} {is:List aF} {σ:mX} {Λ:List (aF×List PV)}
set_option maxHeartbeats 2000000 in
theorem Ow (G:Gd w 5 (cV A g L D)) {rs:Nat->List Nat} (Xz: ∀n<4,1<=(rs n).length/\(rs n).length<=5) (hr:σ.lookup ("rows":Str)=aa (uT rs))
  (hb:mT mu w (cV A g L D).env (cV A g L D).A (In (cV A g L D) (("told",vC rs)::σ) Λ) b J):mT mu w (cV A g L D).env (cV A g L D).A (In (cV A g L D) σ Λ) (nj nA 14::b) J:=by
 have Vv:=aw
 refine wn (l:=ag 4) (V:=λk:Nat=>.int ((0:Int)+k)) (bs:=λk=>[("n",.int ((0:Int)+k))]) (cl:=[("rows",L+5)]) [("rows",uT rs)] (λz=>ai) (λn=>il (sC rs n)) ?h1 ?h2 ?h3 ?h4 ?h5 ?ho ?h6 ?h7 ?h8 ?h9 ?h10 ?h11 ?h12
 case h1=>exact pW G.zero (n:=4) mN (by exact my (.l xK xQ) [] []) (by rfl)
 case h2=>exact n5 nJ hr (.inl rfl) (λz=>rfl) (λz=>.inl rfl)
 case h3=>exact λq C g' T6 z=>nO
 case h4=>exact λq C g' T6 z z z=>og
 case h5=>
  intro n C g' T6 hn _ k hf hO
  have hn:=aL.mp hn
  have G1:=Gd.comp G hO k hf rfl
  have Xn: ∀r∈sR rs (n+1),1<=r.length/\r.length<=5:=λr hr=>by
   refine mR (aK.mp hr) λk hk T1=> ?_;obtain rfl:=T1
   have hk:=aL.mp hk
   have:=Xz k (by exact (my (.i (.b xB xK) (.i (.b xA (.a xB xI)) (.b xA xK))) [_,_]) hn hk)
   rw [ah];exact this
  have Ue:(sR rs (n+1)).length=n+1:=by unfold sR;rw [ah,be]
  refine oE (Gd.sub (m:=1) G1 (by decide)) (ps:=[.list ((sR rs (n+1)).map il)]) (by kernel_rfl) (M1 _).e (mz (mQ (tA (ps:=(sR rs 4).map il) (lo:=az) (hi:=aa ((n+1:Nat):Int)) ?a rG (nY ?b) ?c) ?d) mI) (Jv (by exact (my (.i (.e xA (.a xB xI)) (.l xI xA)) [_,_]) Ue) (by exact (my (.i (.b xB xK) (.i (.e xA (.a xB xI)) (.l xA xK))) [_,_]) hn Ue) (λr hr=>(Xn r hr).2) (λr hr=>(Xn r hr).1))
  case a=>rw [<-Ma];walk_at "ev"
  case b=>
   refine mQ (mJ (p:=.int ((0:Int)+n)) (q:=.int 1) ?_ mN nV) (by exact congrArg _ (my (.E (.a (.a xJ (.k xA)) xI) (.k (.a xA xI))) [_]))
   walk_at "ev"
  case c=>rw [ah];unfold sR;rw [ah,be];exact (my (.i (.e xA xL) (.l xK xA)) [_]) Vv
  case d=>rw [Jr,<-iK,H4 rs hn]
 case ho=>exact λh i=>G.offX i
 case h6=>decide
 case h7=>exact λz z=>by kernel_rfl
 case h8=>rfl
 case h9=>exact ⟨by rfl,trivial⟩
 case h10=>rfl
 case h11=>decide+kernel
 case h12=>exact wd▸hb
end
noncomputable def LD:List Str:=["hand","n","place","name","due"]
def qU (sz dt lt:Nat->Nat) (pl:Nat->Nat->Nat) (h n:Nat):HP:=if h<sz n then [(m7 (if dt n=0 then 0 else dt n+h) (lt n),pq (128+pl n h))] else []
def sL (sz dt lt:Nat->Nat) (pl:Nat->Nat->Nat) (i j:Nat):HP:=(ag i).flatMap (λh=>(ag 4).flatMap (qU sz dt lt pl h))++(ag j).flatMap (qU sz dt lt pl i)
theorem FK (sz dt lt:Nat->Nat) (pl:Nat->Nat->Nat) (i j:Nat):sL sz dt lt pl i (j+1)=sL sz dt lt pl i j++qU sz dt lt pl i j:=by
 unfold sL
 rw [cy (n:=j),bV,<-aJ]
 simp
theorem Dr (sz dt lt:Nat->Nat) (pl:Nat->Nat->Nat) (i:Nat):sL sz dt lt pl (i+1) 0=sL sz dt lt pl i 4:=by
 unfold sL
 rw [cy (n:=i),bV]
 simp
theorem LY (sz dt lt:Nat->Nat) (pl:Nat->Nat->Nat) (h n:Nat):(qU sz dt lt pl h n).length<=1:=by
 unfold qU;split<;>simp
theorem wA (sz dt lt:Nat->Nat) (pl:Nat->Nat->Nat): ∀i j,j<=4->(sL sz dt lt pl i j).length<=4*i+j
 |0,0,_=>aN _
 |i+1,0,_=>by rw [Dr];exact wA sz dt lt pl i 4 (aN _)
 |i,j+1,h=>by
  rw [FK,af]
  have:=wA sz dt lt pl i j (by exact (my (.i (.l (.a xA xI) xK) (.l xA xK)) [_]) h)
  have:=LY sz dt lt pl i j
  exact (my (.i (.l xA (.a (.m 4 xC) xD)) (.i (.l xB xI) (.l (.a xA xB) (.a (.m 4 xC) (.a xD xI))))) [_,_,_,_]) (by assumption) this
theorem Kg: ∀p<128,∃a b,([56,57,65,66,67,68,69,70]:List Nat)[p/16]? =aa a/\([48,49,50,51,52,53,54,55,56,57,65,66,67,68,69,70]:List Nat)[p % 16]? =aa b/\pq (128+p)=[61]++[a]++[b]:=by
 intro p hp
 have UA: ∀p<128,([56,57,65,66,67,68,69,70]:List Nat)[p/16]? =aa (pA ((128+p)/16))/\([48,49,50,51,52,53,54,55,56,57,65,66,67,68,69,70]:List Nat)[p % 16]? =aa (pA ((128+p) % 16)):=by decide+kernel
 exact ⟨_,_,(UA p hp).1,(UA p hp).2,rfl⟩
section
variable {w:av} {A:aX} {g g' g2:aW} {L D D':aF} {is U2:List aF} {σ:mX} {Λ:List (aF×List PV)}
abbrev cQ (A:aX) (g:aW) (L D D':aF) (is:List aF) (g':aW) (U2:List aF) (g2:aW):Sc:=(((((cV A g L D).addOwn D').addX is).at g').addX U2).at g2
theorem n8.own' (h:n8 c x b):n8 (c.addOwn D') x b:=⟨h.kind,h.at',.tail _ h.own,h.only⟩
def S1:List eh:=Fo (nj (Fo (nj nA 16)) 0)
set_option maxHeartbeats 2000000 in
theorem OS (G:Gd w 5 (cQ A g L D D' is g' U2 g2)) {sz dt lt:Nat->Nat} (hn:n<4) (hh:h<5) (VK:dt n<3) (hll:l.length<=100)
  (V2:h<sz n->(sC rs n)[h]? =aa ((pl n h:Nat):Int)/\pl n h<128) (hκ:Ap κ LD) (hD:D≠D')
  (x1:κ.lookup ("sizes":Str)=aa (.list ((ag 4).map λn=>.int (sz n:Nat)))) (x2:κ.lookup ("dots":Str)=aa (.list ((ag 4).map λn=>.int (dt n:Nat)))) (x3:κ.lookup ("letters":Str)=aa (.list ((ag 4).map λn=>.str (S [lt n])))) (x4:κ.lookup ("told":Str)=aa (vC rs)) {J:hF->aW->Prop}:
  mT mu w (cQ A g L D D' is g' U2 g2).env (cQ A g L D D' is g' U2 g2).A (In (cQ A g L D D' is g' U2 g2) (("n",.int ((0:Int)+n))::("hand",.int ((0:Int)+h))::("due",.raw (.ref D'))::κ) [(D',hp l),(D,sl)]) S1
   (λfl hh=>((fl= .next\/fl= .cont)/\In (cQ A g L D D' is g' U2 g2) (("hand",.int ((0:Int)+h))::("due",.raw (.ref D'))::κ) [(D',hp (l++qU sz dt lt pl h n)),(D,sl)] hh)\/((∃v,fl= .ret v)/\J fl hh)):=by
 have hz:=aw
 have e0:((0:Int)+n).toNat=n:=by exact my (.e (.t (.a xJ (.k xA))) xA) [_]
 have e1:((0:Int)+h).toNat=h:=by exact my (.e (.t (.a xJ (.k xA))) xA) [_]
 refine m9 (d:=decide ((0:Int)+h<(sz n:Nat))) (mY (p:=.int ((0:Int)+h)) (q:=.int (sz n:Nat)) ?t1 (nq (p:=.list ((ag 4).map λn=>.int (sz n:Nat))) (q:=.int ((0:Int)+n)) ?t2 ?t3 (m5 (by exact my (.L xJ (.a xJ (.k xA))) [_]) (by rw [e0];exact oS hn) (by exact (my (.i (.b xA xK) (.B (.a xJ (.k xA)) xS)) [_]) hn))) rF) (λhd=> ?yes) (λhd=> ?no)
 case t1=>walk_at "ev"
 case t2=>walk_at "ev"
 case t3=>walk_at "ev"
 case no=>
  have Un: ¬h<sz n:=by have:=of_decide_eq_false hd;exact (my (.i (.n (.B (.a xJ (.k xA)) (.k xB))) (.n (.b xA xB))) [_,_]) this
  have e:l++qU sz dt lt pl h n=l:=by unfold qU;rw [if_neg Un,bK]
  rw [e]
  exact sr (by walk_at "has") rfl
 case yes=>
  have Un:h<sz n:=by have:=of_decide_eq_true hd;exact (my (.i (.B (.a xJ (.k xA)) (.k xB)) (.b xA xB)) [_,_]) this
  refine eA (V2 Un) λp1 p2=> ?_
  have e:qU sz dt lt pl h n=[(m7 (if dt n=0 then 0 else dt n+h) (lt n),pq (128+pl n h))]:=by unfold qU;rw [if_pos Un]
  rw [e]
  refine mM (p:=.int (pl n h:Nat)) (nq (p:=il (sC rs n)) (q:=.int ((0:Int)+h)) (nq (p:=vC rs) (q:=.int ((0:Int)+n)) ?a1 ?a2 (m5 (by exact my (.L xJ (.a xJ (.k xA))) [_]) (by rw [e0];exact oS hn) (by exact (my (.i (.b xA xK) (.B (.a xJ (.k xA)) xS)) [_]) hn))) ?a3 (m5 (by exact my (.L xJ (.a xJ (.k xA))) [_]) (by rw [e1];show (eV PV.int _)[h]? =_;rw [a7,p1];rfl) (by exact (my (.i (.b xA xN) (.B (.a xJ (.k xA)) xS)) [_]) hh))) ?_
  case a1=>walk_at "ev"
  case a2=>walk_at "ev"
  case a3=>walk_at "ev"
  have hdot: ∀{σ':mX} {Λ':List (aF×List PV)},aD ("n":Str) σ'=aa (.int ((0:Int)+n))->aD ("dots":Str) σ'=aa (.list ((ag 4).map λn=>.int (dt n:Nat)))-> ∀{p1 p2 p3:Pos},
    Ev mu w (fs (cQ A g L D D' is g' U2 g2) σ' Λ') (.Subscript (.Name "dots" p1) (.Name "n" p2) p3) (.int (dt n:Nat)):=by
   intro σ' Λ' h1 h2 p1 p2 p3
   exact nq (p:=.list ((ag 4).map λn=>.int (dt n:Nat))) (q:=.int ((0:Int)+n)) (nw h2) (nw h1) (m5 (by exact my (.L xJ (.a xJ (.k xA))) [_]) (by rw [e0];exact oS hn) (by exact (my (.i (.b xA xK) (.B (.a xJ (.k xA)) xS)) [_]) hn))
  refine mM (p:=.str (S (m7 (if dt n=0 then 0 else dt n+h) (lt n)))) (mQ (mJ (p:=.str (S (aG (if dt n=0 then 0 else dt n+h) [46]).flatten)) (q:=.str (S [lt n])) (mJ (p:=.str (S [46])) (q:=.int ((if dt n=0 then 0 else dt n+h:Nat):Int)) (m6 (by kernel_rfl)) ?b1 (ye (by decide) ?b2)) (nq (p:=.list ((ag 4).map λn=>.str (S [lt n]))) (q:=.int ((0:Int)+n)) ?b3 ?b4 (m5 (by exact my (.L xJ (.a xJ (.k xA))) [_]) (by rw [e0];exact oS hn) (by exact (my (.i (.b xA xK) (.B (.a xJ (.k xA)) xS)) [_]) hn))) (ox ?b5)) ?b6) ?rest
   (.inr ⟨L+9,n8.loop (n8.loop (c:=(cV A g L D).addOwn D') (n8.own' (B4 (by rfl) (by rfl))))⟩)
  case b1=>
   refine DV (c:=decide ((dt n:Int)>0)) (mY (p:=.int (dt n:Nat)) (q:=.int 0) (hdot (by walk_at "lk") (by walk_at "lk")) mN zs) (λhc=> ?y) (λhc=> ?z)
   case y=>
    have:dt n≠0:=by have:=of_decide_eq_true hc;exact (my (.i (.B xJ (.k xA)) (.n (.e xA xJ))) [_]) this
    rw [if_neg this]
    refine mQ (mJ (p:=.int (dt n:Nat)) (q:=.int ((0:Int)+h)) (hdot (by walk_at "lk") (by walk_at "lk")) ?_ nV) (by exact congrArg _ (my (.E (.a (.k xA) (.a xJ (.k xB))) (.k (.a xA xB))) [_,_]))
    walk_at "ev"
   case z=>
    have:dt n=0:=by have:=of_decide_eq_false hc;exact (my (.i (.n (.B xJ (.k xA))) (.e xA xJ)) [_]) this
    rw [if_pos this];exact mN
  case b2=>split<;>(first|exact (my (.i (.b xB xN) (.i (.b xA xO) (.l (.a xA xB) xQ))) [_,_]) hh VK|exact my (.l xJ xQ) [])
  case b3=>walk_at "ev"
  case b4=>walk_at "ev"
  case b5=>
   rw [zB,a8]
   have:(if dt n=0 then 0 else dt n+h)<=10:=by split<;>(first|exact (my (.i (.b xB xN) (.i (.b xA xO) (.l (.a xA xB) (.c 10)))) [_,_]) hh VK|exact my (.l xJ (.c 10)) [])
   exact (my (.i (.e xB xL) (.i (.l xA (.c 10)) (.l (.a xA xI) xB))) [_,_]) hz this
  case b6=>rw [zB];rfl
  case rest=>
   refine nh (Kg (pl n h) p2) λa b q1 q2 q3=> ?_
   have m0:(((pl n h:Nat):Int).fdiv 16).toNat=pl n h/16:=by rw [bX _ (by decide)];exact my (.e (.t (.d (.k xA) 16)) (.d xA 16)) [_]
   have m1:(((pl n h:Nat):Int).fmod 16).toNat=pl n h % 16:=by rw [bM _ (by decide)];exact my (.e (.t (.e (.k xA) 16)) (.e xA 16)) [_]
   have m2:0<=((pl n h:Nat):Int).fdiv 16/\((pl n h:Nat):Int).fdiv 16<16:=by rw [bX _ (by decide)];exact (my (.i (.b xA xR) (.a (.L xJ (.d (.k xA) 16)) (.B (.d (.k xA) 16) (.c 16)))) [_]) p2
   have m3:=qO (a:=((pl n h:Nat):Int)) (m:=16) (by decide)
   refine BD (D:=D') (l:=hp l) (p:=.tup [.str (S (m7 (if dt n=0 then 0 else dt n+h) (lt n))),.str (S (pq (128+pl n h)))]) (by walk_at "lk") (ou (mz ?c1 (mz (mQ (mJ (p:=.str (S ([61]++[a]))) (q:=.str (S [b])) (mJ (p:=.str (S [61])) (q:=.str (S [a])) (m6 (by kernel_rfl))
    (nq (p:=.str (S [56,57,65,66,67,68,69,70])) (q:=.int (((pl n h:Nat):Int).fdiv 16)) (m6 (by kernel_rfl)) (mJ (p:=.int (pl n h:Nat)) (q:=.int 16) ?c2 mN (oZ (by decide) (by decide))) (qN m2.1 (by rw [m0];exact q1) (by exact (my (.i (.B xA (.c 16)) (.B xA xS)) [] [_]) m2.2))) (ox (by exact (my (.i (.e xA xL) (.l xM xA)) [_]) hz)))
    (nq (p:=.str (S [48,49,50,51,52,53,54,55,56,57,65,66,67,68,69,70])) (q:=.int (((pl n h:Nat):Int).fmod 16)) (m6 (by kernel_rfl)) (mJ (p:=.int (pl n h:Nat)) (q:=.int 16) ?c3 mN (oq (by decide))) (qN m3.1 (by rw [m1];exact q2) (by exact (my (.i (.B xA (.c 16)) (.B xA xS)) [] [_]) m3.2))) (ox (by exact (my (.i (.e xA xL) (.l xO xA)) [_]) hz))) (by rw [q3])) mI)) (by exact (my (.i (.e xA xL) (.l xM xA)) [_]) hz)) ?c4 ?c5 ?c6
   case c1=>walk_at "ev"
   case c2=>walk_at "ev"
   case c3=>walk_at "ev"
   case c4=>unfold hp;rw [ah];exact (my (.i (.l xA xP) (.i (.e xB xL) (.l xA xB))) [_,_]) hll hz
   case c5=>
    intro q hq
    rw [ak.mp hq];exact hD
   case c6=>exact sr (by walk_at "has") (by unfold hp;rw [bi];rfl)
end
theorem AP (h:(ag n)[i]? =aa x):x=i/\i<n:=by
 obtain ⟨h1,h2⟩:=aT.mp h
 rw [be] at h1
 rw [cU] at h2
 exact ⟨h2.symm,h1⟩
section
variable {w:av} {A:aX} {g g' g2:aW} {L D:aF} {is U2:List aF} {σ:mX} {Λ:List (aF×List PV)}
theorem Rv (hk:pC.scope.names.lookup x=aa .cell) (hb:(bu (L+1) pC.scope.names []).lookup x=aa b):n8 ((cV A g L D).addOwn D') x b:=n8.own' (B4 hk hb)
set_option maxHeartbeats 2000000 in
theorem QT (G:Gd w 5 (cV A g L D)) {sz dt lt:Nat->Nat} {pl:Nat->Nat->Nat} (hH:H<=5) (VK: ∀n<4,dt n<3) (hsz:sz 3=H)
  (V2: ∀n<4,∀h<sz n,(sC rs n)[h]? =aa ((pl n h:Nat):Int)/\pl n h<128) (hκ:Ap κ LD)
  (x1:κ.lookup ("sizes":Str)=aa (.list ((ag 4).map λn=>.int (sz n:Nat)))) (x2:κ.lookup ("dots":Str)=aa (.list ((ag 4).map λn=>.int (dt n:Nat)))) (x3:κ.lookup ("letters":Str)=aa (.list ((ag 4).map λn=>.str (S [lt n])))) (x4:κ.lookup ("told":Str)=aa (vC rs))
  (hb:mT mu w (cV A g L D).env (cV A g L D).A (In (cV A g L D) (("due",.list (hp (sL sz dt lt pl H 0)))::κ) [(D,sl)]) b J):
  mT mu w (cV A g L D).env (cV A g L D).A (In (cV A g L D) κ [(D,sl)]) (nj nA 15::nj nA 16::b) J:=by
 have hz:=aw
 refine wZ λD' hg hX=> ?_
 have hDD:D≠D':=λq=>hX (by exact q▸(ax _ (.head _)))
 have GD:Gd w 5 ((cV A g L D).addOwn D'):=G.addOwn D'
 refine rJ (c:=(cV A g L D).addOwn D') GD (l:=ag H) (V:=λi:Nat=>.int ((0:Int)+i)) (bs:=λi=>[("hand",.int ((0:Int)+i))]) (λz=>("due",.raw (.ref D'))::κ) (λi=>[(D',hp (sL sz dt lt pl i 0)),(D,sl)]) ?h1 rfl rfl (λa is z=>nO) ?h2 ?h3
 case h1=>
  refine pW GD.zero (n:=H) (nq (p:=.list ((ag 4).map λn=>.int (sz n:Nat))) (q:=.int 3) (nw (by walk_at "lk")) mN (m5 (by exact my (.L xJ xO) [] []) ?_ (by exact my (.B xO xS) []))) (by exact (my (.i (.l xA xN) (.l xA xQ)) [_]) hH) (by rfl)
  show ((ag 4).map λn=>PV.int (sz n:Nat))[3]? =_
  rw [oS (by decide),hsz]
 case h2=>
  intro h x g2 U2 hx G2
  refine eA (AP hx) λT1 Un=> ?_;obtain rfl:=T1
  refine rJ G2 (l:=ag 4) (V:=λi:Nat=>.int ((0:Int)+i)) (bs:=λi=>[("n",.int ((0:Int)+i))]) (λz=>("hand",.int ((0:Int)+x))::("due",.raw (.ref D'))::κ) (λj=>[(D',hp (sL sz dt lt pl x j)),(D,sl)]) ?k1 rfl rfl (λa is z=>nO (.inr ⟨L+4,n8.addX (n8.loop (Rv (by rfl) (by rfl)))⟩)) ?k2 ?k3
  case k1=>exact pW G2.zero (n:=4) mN (by exact my (.l xK xQ) [] []) (by rfl)
  case k2=>
   intro n y g3 is3 hy G3
   refine eA (AP hy) λT1 Wm=> ?_;obtain rfl:=T1
   rw [FK]
   exact OS G3 Wm (by exact (my (.i (.l xB xN) (.i (.b xA xB) (.b xA xN))) [_,_]) hH Un) (VK y Wm) (by have:=wA sz dt lt pl x y (by exact (my (.i (.b xA xK) (.l xA xK)) [_]) Wm);exact (my (.i (.l xB xN) (.i (.b xC xB) (.i (.b xD xK) (.i (.l xA (.a (.m 4 xC) xD)) (.l xA xP))))) [_,_,_,_]) hH Un Wm this) (λq=>V2 y Wm x q) hκ hDD x1 x2 x3 x4
  case k3=>
   rw [show (ag 4).length=4 from rfl,Dr]
   exact sr (by walk_at "has") rfl
 case h3=>
  rw [be]
  refine w0 (c:=cV A g L D) "due" BZ (λq hq=>by exact (ak.mp hq)▸hDD) hX ?_ (.tail _ (.head _))
  exact o7 (σ':=("due",.list (hp (sL sz dt lt pl H 0)))::κ) (by walk_at "has") hb
end
noncomputable def ot:List Nat:=[61,63,120,63,113,63]
def qZ:List Nat:=61::63::120::113::32::9::xb
noncomputable def lw (c:Nat):Nat:=if 65<=c/\c<=90 then c+32 else c
theorem PH: ∀c∈qZ,Unicode.lowerOf c=[lw c]/\(c==0x3A3)=false:=by decide+kernel
theorem JJ (h: ∀c∈l,c∈qZ):Txt.lower (S l)=S (l.map lw):=by
 unfold Txt.lower
 rw [placed_single (S l) _ lw]
 ·simp [S]
 ·intro i c hc
  have hc:l[i]? =aa c:=by simpa [S] using hc
  have hm:=PH c (h c (br hc))
  unfold Unicode.lowerAt
  rw [Ka,hc]
  simp only [hm.2,jN,a9,if_false]
  exact hm.1
theorem Dm (Uk:l≠[]) (h:FL l):Txt.lines (S l)=[S l]:=by
 have hs:jG (S l)=[(0,l.length,l.length)]:=by
  rw [StrLaws.ls_eq,mW]
  have:=zE (S l) l.length 0 (#[],0) λi h1 h2=>.inr (by rw [KN];exact h _ (x8 (by exact (my (.i (.b xA (.a xJ xB)) (.b xA xB)) [_,_]) h2)))
  show jL (S l) (iC (m:=Id) _ _ _).run=_
  rw [this]
  unfold jL
  have hp:0<l.length:=dP.mpr Uk
  rw [mW,if_pos hp];rfl
 have hl:km (S l)=[S l]:=by
  unfold km lineCuts
  rw [hs]
  simp only [ba,gV]
  congr 1
  apply iw
  apply dO.mp
  rw [dq,gZ,eG]
  have:(S l).cps.toList=l:=by simp [S]
  rw [this]
  exact eJ
 unfold Txt.lines
 split
 ·rfl
 ·exact hl
theorem N6 (h:c9 c=false):Txt.rstrip (S (l++[c]++[32,9]))=S (l++[c]):=by
 have s1:c9 32=ai:=by decide+kernel
 have s2:c9 9=ai:=by decide+kernel
 have hhi:stripHi c9 ai (S (l++[c]++[32,9])) 0=(l++[c]).length:=by
  unfold stripHi
  simp [S,h,s1,s2,fJ]
 have hs:lJ c9 false ai (S (l++[c]++[32,9]))=false:=by
  unfold lJ stripLo
  simp only [a9,if_false,hhi]
  rw [mW];simp
 unfold Txt.rstrip Txt.stripBy
 rw [hs]
 unfold PySem.stripped stripLo
 simp only [a9,if_false,hhi]
 apply iw
 apply dO.mp
 rw [dq,gZ,eG]
 have:(S (l++[c]++[32,9])).cps.toList=l++[c]++[32,9]:=by simp [S]
 rw [this,gk]
theorem LP (a b:List Nat):Txt.endswith (S (a++b)) (S b)=ai:=by
 unfold Txt.endswith
 rw [mW,mW,xo,af]
 rw [show a.length+b.length - b.length=a.length by exact my (.e (.s (.a xA xB) xB) xA) [_,_],List.drop_left,eJ]
 simp
theorem D5 (h1:[13,10].contains (Us.getLastD 0)=false) (h2:qX Us mark=body++mark) (hm:mark≠[]):vj Us mark=body:=by
 unfold vj
 rw [h2,if_pos ⟨h1,LP _ _⟩,BC _ _ (dP.mpr hm),af,jb,gk]
theorem RR: ∀c<256,hx (lw (pA (c/16)))=ai/\hx (lw (pA (c % 16)))=ai/\16*oo (lw (pA (c/16)))+oo (lw (pA (c % 16)))=c/\lw (pA (c/16))≠61/\lw (pA (c % 16))≠61:=by decide+kernel
theorem D3 (e t:List Nat): ∀v:List Nat,vv v->nH e ((toks v).map lw++t)=v++nH e t
 |[],_=>rfl
 |c::v,h=>by
  have hc:=h c (.head _)
  have k:=RR c hc.2
  have ih:=D3 e t v λx hx=>h x (.tail _ hx)
  rw [sY]
  show nH e (lw 61::lw (pA (c/16))::lw (pA (c % 16))::((toks v).map lw++t))=_
  rw [show lw 61=61 from rfl,nH,if_pos ⟨rfl,k.1,k.2.1⟩,k.2.2.1,ih];rfl
theorem CP (e t:List Nat) (h:t≠[]):nH e (ot++t)=ot++nH e t:=by
 show nH e (61::63::120::([63,113,63]++t))=_
 rw [nH,if_neg (λq=>absurd q.2.1 (by decide+kernel))]
 have:=ya e t [63,120,63,113,63] (by decide)
 show 61::nH e ([63,120,63,113,63]++t)=_
 rw [this];rfl
theorem zp (h:vv v): ∀c∈toks v,c∈qZ:=λc hc=>by
 rcases ao.mp (xm h c hc) with rfl|h
 ·exact .head _
 ·exact aM [61,63,120,113,32,9] h
theorem NL: ∀c∈qZ,cG c=(c==9&&false)/\cG (lw c)=false:=by decide+kernel
theorem N5 (h:vv v) (hm:sW mark):vj ((ot++toks v++[63]).map lw++[32,9]) mark=ot++v++[63]:=by
 have Uk:mark≠[]:=by rcases hm with rfl|rfl|rfl<;>decide
 have VS: ∀c∈ot++toks v++[63],c∈qZ:=by
  intro c hc
  rcases ar.mp hc with hc|hc
  ·rcases ar.mp hc with hc|hc
   ·exact (by decide: ∀c∈ot,c∈qZ) c hc
   ·exact zp h c hc
  ·exact (by decide: ∀c∈[63],c∈qZ) c hc
 refine D5 ?_ ?_ Uk
 ·rw [show ([32,9]:List Nat)=[32]++[9] from rfl,<-aJ,fU];decide
 ·have hb:FL ((ot++toks v++[63]).map lw++[32,9]):=by
   intro c hc
   rcases ar.mp hc with hc|hc
   ·obtain ⟨d,hd,rfl⟩:=aK.mp hc
    exact (NL d (VS d hd)).2
   ·exact (by decide+kernel: ∀c∈[32,9],cG c=false) c hc
  have e1:(ot++toks v++[63]).map lw=(ot.map lw++(toks v).map lw)++[63]:=by rw [bi,bi];rfl
  unfold qX oX
  rw [Dm (by simp) hb,e1,eZ,N6 (by decide+kernel),gW]
  have e2:(S (ot.map lw++(toks v).map lw++[63])).cps.toList=ot++((toks v).map lw++[63]):=by simp [S];decide
  rw [e2,CP _ _ (by simp),D3 _ _ _ h]
  show ot++(v++63::mark)=_
  simp
theorem yv: ∀c∈xb,[13,10].contains c=false/\c9 c=false/\c≠61:=by decide+kernel
theorem N4 (h:vv v) (ha:a∈xb) (hm:sW mark):vj (ot++toks v++[61,a]) mark=ot++v++[61,a]:=by
 have Uk:mark≠[]:=by rcases hm with rfl|rfl|rfl<;>decide
 have e0:ot++toks v++[61,a]=(ot++toks v++[61])++[a]:=by simp
 refine D5 ?_ ?_ Uk
 ·rw [e0,fU];exact (yv a ha).1
 ·have hb:FL (ot++toks v++[61,a]):=by
   intro c hc
   have VS:c∈qZ:=by
    rcases ar.mp hc with hc|hc
    ·rcases ar.mp hc with hc|hc
     ·exact (by decide: ∀c∈ot,c∈qZ) c hc
     ·exact zp h c hc
    ·rcases ao.mp hc with rfl|hc
     ·exact .head _
     ·rw [ak.mp hc];exact aM [61,63,120,113,32,9] ha
   have:=(NL c VS).1
   rw [iq] at this;exact this
  unfold qX oX
  rw [Dm (by simp) hb,e0,eZ,yr (yv a ha).2.1,gW]
  have e2:(S (ot++toks v++[61]++[a])).cps.toList=ot++(toks v++[61,a]):=by simp [S]
  rw [e2,CP _ _ (by simp),wE _ _ _ h]
  have e3:nH mark [61,a]=61::a::mark:=by
   rw [nH,nH,if_neg (yv a ha).2.2]
  rw [e3];simp
theorem Pe (ht: ∀x∈t,x<128) (Uk:t≠[]):DO ((mS t).map ia) [120]=ot++toks (mS t)++[63,61]:=by
 unfold DO
 have e1:((mS t).map ia).isEmpty=false:=by cases t with
  |nil=>exact absurd rfl Uk
  |cons x t=>rfl
 rw [e1]
 have UA: ∀c<256,128<=c->vn c=pq c:=by decide+kernel
 have e2:(((mS t).map ia).map (·.toNat))=mS t:=by
  rw [aB]
  conv=>rhs;rw [<-kW (mS t)]
  refine aV λc hc=> ?_
  have:=tW ht c hc
  show (ia c).toNat=c
  rw [UInt8.toNat_ofNat'];exact (my (.i (.b xA (.c 256)) (.e (.e xA 256) xA)) [_]) this.2
 rw [e2]
 have e3:(mS t).flatMap vn=toks (mS t):=by
  unfold toks
  rw [cn,cn]
  congr 1
  exact aV λc hc=>by have:=tW ht c hc;exact UA c this.2 this.1
 rw [e3];rfl
end
section
open PySem.Calls PyProof.Rows PySem.Builtin.Str PySem.SeqAt
def vx (l:List Nat):Prop:= ∀c∈l,c<256
def sd (x:List Nat):iu:=.str (S x)
def td (q:List Nat×List Nat):iu:=.tuple [.str (S q.1),.str (S q.2)]
theorem IY (h:vx x):(sd x).canLay0=ai:=by
 show (S x).cps.all (· <0x110000)=ai
 have e:(S x).cps=x.toArray:=rfl
 rw [e]
 simp only [List.all_toArray,bq,decide_eq_true_eq]
 intro c hc
 have:=h c hc
 exact (my (.i (.b xA (.c 256)) (.b xA (.c 1114112))) [_]) this
theorem Cu: ∀ls:List (List Nat),wU (ls.map λx=>.str (S x))=aa (ls.map sd)
 |[]=>rfl
 |x::ls=>by
  show (match pd (.str (S x)),wU (ls.map λx=>.str (S x)) with|some d,aa ds=>aa (d::ds)|_,_=>jp)=_
  rw [Cu ls];rfl
theorem GA: ∀l:HP,wU (hp l)=aa (l.map td)
 |[]=>rfl
 |q::l=>by
  show (match pd (.tup [.str (S q.1),.str (S q.2)]),wU (hp l) with|some d,aa ds=>aa (d::ds)|_,_=>jp)=_
  rw [GA l];rfl
theorem Cf {α:Type} {f:α->iu}: ∀{ls:List α},(∀x∈ls,(f x).canLay0=ai)->lA (ls.map f)=ai
 |[],_=>rfl
 |x::ls,h=>by
  show ((f x).canLay0&&lA (ls.map f))=ai
  rw [h x (.head _),Cf λy hy=>h y (.tail _ hy)];rfl
theorem Av {α:Type} {f:α->iu}: ∀{ls:List α},(∀x∈ls,(f x).depth<=k)->fR (ls.map f)<=k
 |[],_=>cx _
 |x::ls,h=>by
  exact Nat.max_le.mpr ⟨h x (.head _),Av λy hy=>h y (.tail _ hy)⟩
theorem zA {α:Type} {f:α->iu} (h: ∀x,da (f x) (f x)=ai): ∀ls:List α,gr (ls.map f) (ls.map f)=ai
 |[]=>by simp [gr]
 |x::ls=>by
  rw [ba,gr,h x,zA h ls];rfl
theorem M8 (x:List Nat):da (sd x) (sd x)=ai:=by simp [sd,da]
theorem RU (q:List Nat×List Nat):da (td q) (td q)=ai:=by simp [td,da,gr]
theorem CM (h:d.canLay0=ai) (k:d.depth<=64):shaped d=ai:=by
 unfold shaped;rw [h,decide_eq_true k];rfl
theorem uQ {ls:List (List Nat)} (h: ∀x∈ls,vx x):shaped (.list (ls.map sd))=ai:=
 CM (Cf λx hx=>IY (h x hx)) (by
  have:fR (ls.map sd)<=0:=Av λx z=>aN _
  exact (my (.i (.l xA xJ) (.l (.a xA xI) (.c 64))) [_]) this)
theorem Ak {l:HP} (h: ∀q∈l,vx q.1/\vx q.2):shaped (.list (l.map td))=ai:=
 CM (Cf λq hq=>by
  show ((sd q.1).canLay0&&((sd q.2).canLay0&&ai))=ai
  rw [IY (h q hq).1,IY (h q hq).2];rfl) (by
  have:fR (l.map td)<=1:=Av λx z=>by
   show fR [.str (S x.1),.str (S x.2)]+1<=1
   simp [fR,iu.depth]
  exact (my (.i (.l xA xI) (.l (.a xA xI) (.c 64))) [_]) this)
section
variable {prog:aH} {w:av} {A:aX} {X:List aF}
theorem HB {ls:List (List Nat)} (hu:A.units+64<fw) (h: ∀x∈ls,vx x):n0 prog w A X (bP .NotEq) (.list (ls.map λx=>.str (S x))) (.list (ls.map λx=>.str (S x))) (.bool false):=by
 have e:pd (.list (ls.map λx=>.str (S x)))=aa (.list (ls.map sd)):=by show (wU _).map _=_;rw [Cu];rfl
 have:=D4 (prog:=prog) (w:=w) (X:=X) hu e e (uQ h) (uQ h)
 have q:da (.list (ls.map sd)) (.list (ls.map sd))=ai:=by rw [da];exact zA M8 ls
 rw [q] at this;exact this
theorem OH {ls:List (List Nat)} (hu:A.units+64<fw) (h: ∀x∈ls,vx x):n0 prog w A X (bP .Eq) (.list (ls.map λx=>.str (S x))) (.list (ls.map λx=>.str (S x))) (.bool ai):=by
 have e:pd (.list (ls.map λx=>.str (S x)))=aa (.list (ls.map sd)):=by show (wU _).map _=_;rw [Cu];rfl
 have:=Ei (prog:=prog) (w:=w) (X:=X) hu e e (uQ h) (uQ h)
 have q:da (.list (ls.map sd)) (.list (ls.map sd))=ai:=by rw [da];exact zA M8 ls
 rw [q] at this;exact this
theorem Cr (hu:A.units+64<fw) (h: ∀q∈l,vx q.1/\vx q.2):n0 prog w A X (bP .Eq) (.list (hp l)) (.list (hp l)) (.bool ai):=by
 have e:pd (.list (hp l))=aa (.list (l.map td)):=by show (wU _).map _=_;rw [GA];rfl
 have:=Ei (prog:=prog) (w:=w) (X:=X) hu e e (Ak h) (Ak h)
 have q:da (.list (l.map td)) (.list (l.map td))=ai:=by rw [da];exact zA RU l
 rw [q] at this;exact this
end
end
section
open PySem.Calls PyProof.Rows PySem.Builtin.Str
theorem Hx {α:Type} (f:Nat->α) (s:Nat): ∀H,((ag H).flatMap λh=>if h<s then [f h] else [])=(ag (min s H)).map f
 |0=>by rw [kJ];rfl
 |H+1=>by
  rw [cy,bV,Hx f s H]
  by_cases h:H<s
  ·rw [show min s (H+1)=H+1 by exact (my (.i (.b xB xA) (.e (.n xA (.a xB xI)) (.a xB xI))) [_,_]) h,show min s H=H by exact (my (.i (.b xB xA) (.e (.n xA xB) xB)) [_,_]) h,cy,bi]
   simp [h]
  ·rw [show min s (H+1)=s by exact (my (.i (.n (.b xB xA)) (.e (.n xA (.a xB xI)) xA)) [_,_]) h,show min s H=s by exact (my (.i (.n (.b xB xA)) (.e (.n xA xB) xA)) [_,_]) h]
   simp [h]
theorem JN {α:Type} (X:List α): ∀n<4,((ag 4).flatMap λm=>if m=n then X else [])=X:=by
 intro n hn
 have:ag 4=[0,1,2,3]:=rfl
 rw [this]
 match n,hn with
 |0,_=>simp
 |1,_=>simp
 |2,_=>simp
 |3,_=>simp
theorem C9 {α:Type} (p:α->Bool): ∀l:List α,l[l.findIdx p]? =(l.filter p).head?
 |[]=>rfl
 |a::l=>by
  rw [List.findIdx_cons]
  cases h:p a with
  |true=>rw [gR h];rfl
  |false=>
   rw [gS (by exact h▸dz)]
   show (a::l)[(List.findIdx p l+1)]? =_
   rw [List.getElem?_cons_succ];exact C9 p l
section
variable {sz dt lt:Nat->Nat} {pl:Nat->Nat->Nat}
structure uK (sz dt lt:Nat->Nat):Prop where
 lets: ∀n<4,lt n∈sO
 keys: ∀n<4,∀m<4,xX (lt n)=xX (lt m)->n=m
 dots: ∀n<4,dt n<3
 some: ∀n<4,1<=sz n/\sz n<=sz 3
 five:sz 3<=5
noncomputable def kk (dt:Nat->Nat) (h n:Nat):Nat:=if dt n=0 then 0 else dt n+h
def qx (sz dt lt:Nat->Nat) (pl:Nat->Nat->Nat):HP:=sL sz dt lt pl (sz 3) 0
theorem zv:qx sz dt lt pl=(ag (sz 3)).flatMap λh=>(ag 4).flatMap (qU sz dt lt pl h):=by
 unfold qx sL;simp
theorem vY (W:uK sz dt lt) (h:q∈qx sz dt lt pl): ∃i<sz 3,∃n<4,i<sz n/\q=(m7 (kk dt i n) (lt n),pq (128+pl n i)):=by
 rw [zv] at h
 refine mR (cT.mp h) λi hi h=> ?_
 refine mR (cT.mp h) λn hn h=> ?_
 unfold qU at h
 split at h
 ·rename_i hl
  exact ⟨i,aL.mp hi,n,aL.mp hn,hl,ak.mp h⟩
 ·cases h
theorem NJ (W:uK sz dt lt) (hi:i<sz 3) (hn:n<4):kk dt i n<7:=by
 have:=W.five;have:=W.dots n hn
 unfold kk;split<;>(first|exact (my (.i (.b xB xC) (.i (.l xC xN) (.i (.b xA xO) (.b (.a xA xB) (.c 7))))) [_,_,_]) hi (by assumption) this|exact my (.b xJ (.c 7)) [])
theorem PG (W:uK sz dt lt) (hn:n<4) (hm:m<4) (e:lt n=lt m):n=m:=W.keys n hn m hm (by rw [e])
theorem Jq (W:uK sz dt lt) (hn:n<4):(qx sz dt lt pl).filter (λq=>[q.1.getLast?.getD 0]==[lt n])=(ag (sz n)).map λh=>(m7 (kk dt h n) (lt n),pq (128+pl n h)):=by
 have e: ∀h,((ag 4).flatMap (qU sz dt lt pl h)).filter (λq=>[q.1.getLast?.getD 0]==[lt n])=qU sz dt lt pl h n:=by
  intro h
  rw [lH]
  have:(ag 4).flatMap (λm=>(qU sz dt lt pl h m).filter (λq=>[q.1.getLast?.getD 0]==[lt n]))=(ag 4).flatMap (λm=>if m=n then qU sz dt lt pl h n else []):=by
   rw [cn,cn]
   congr 1
   refine aV λm hm=> ?_
   have hm:=aL.mp hm
   by_cases hmn:m=n
   ·subst hmn
    rw [if_pos rfl]
    refine bW.mpr λq hq=> ?_
    unfold qU at hq
    split at hq
    ·rw [ak.mp hq];simp [m7]
    ·cases hq
   ·rw [if_neg hmn]
    refine List.filter_eq_nil_iff.mpr λq hq=> ?_
    unfold qU at hq
    split at hq
    ·rw [ak.mp hq]
     have:lt m≠lt n:=λe=>hmn (PG W hm hn e)
     simpa [m7] using this
    ·cases hq
  rw [this,JN _ n hn]
 rw [zv,lH]
 have e2:(ag (sz 3)).flatMap (λh=>((ag 4).flatMap (qU sz dt lt pl h)).filter (λq=>[q.1.getLast?.getD 0]==[lt n]))=(ag (sz 3)).flatMap λh=>if h<sz n then [(m7 (kk dt h n) (lt n),pq (128+pl n h))] else []:=by
  rw [cn,cn]
  congr 1
  exact aV λh z=>e h
 rw [e2,Hx,fW (W.some n hn).2]
def yO (sz dt lt:Nat->Nat) (pl:Nat->Nat->Nat) (n:Nat):List (List Nat):=((qx sz dt lt pl).filter λq=>q.1==m7 (dt n) (lt n)).map (·.2)
theorem Hp (W:uK sz dt lt) (hn:n<4):(qx sz dt lt pl).filter (λq=>oG q.1==oG (m7 (dt n) (y4 (lt n))))=(qx sz dt lt pl).filter λq=>q.1==m7 (dt n) (lt n):=by
 refine List.filter_congr λq hq=> ?_
 refine yN (vY W hq) λi hi m hm hl T1=> ?_;obtain rfl:=T1
 have f:=rA (kk dt i m) (NJ W hi hm) (lt m) (W.lets m hm)
 have f':=rA (dt n) (by have:=W.dots n hn;exact (my (.i (.b xA xO) (.b xA (.c 7))) [_]) this) (lt n) (W.lets n hn)
 show (oG (m7 (kk dt i m) (lt m))==oG (m7 (dt n) (y4 (lt n))))=(m7 (kk dt i m) (lt m)==m7 (dt n) (lt n))
 rw [f.1,f'.2.1]
 rw [dE,beq_iff_eq,beq_iff_eq]
 constructor
 ·intro e
  obtain ⟨e1,e2⟩:=zi e
  have:=W.keys m hm n hn e2
  subst this;rw [e1]
 ·intro e
  obtain ⟨e1,e2⟩:=zi e
  rw [e1,e2]
theorem JE (W:uK sz dt lt) (hn:n<4): ∃o r,yO sz dt lt pl n=o::r:=by
 have hs:=W.some n hn
 have h3:0<sz 3:=by exact (my (.i (.l xI xB) (.i (.l xB xA) (.b xJ xA))) [_,_]) hs.1 hs.2
 have hm:(m7 (dt n) (lt n),pq (128+pl n 0))∈(qx sz dt lt pl).filter λq=>q.1==m7 (dt n) (lt n):=by
  refine eX.mpr ⟨?_,by simp⟩
  rw [zv]
  refine cT.mpr ⟨0,aL.mpr h3,cT.mpr ⟨n,aL.mpr hn,?_⟩⟩
  unfold qU
  rw [if_pos (by exact (my (.i (.l xI xA) (.b xJ xA)) [_]) hs.1)]
  have:(if dt n=0 then 0 else dt n+0)=dt n:=by split<;>(first|exact (my (.i (.e xA xJ) (.e xJ xA)) [_]) (by assumption)|exact my (.e (.a xA xJ) xA) [_])
  rw [this];exact .head _
 unfold yO
 cases h:(qx sz dt lt pl).filter λq=>q.1==m7 (dt n) (lt n) with
 |nil=>rw [h] at hm;cases hm
 |cons q r=>exact ⟨_,_,rfl⟩
theorem O1 (W:uK sz dt lt) (hn:n<4) (e:yO sz dt lt pl n=o::r):w5 (qx sz dt lt pl) (m7 (dt n) (y4 (lt n)))= .str (S o):=by
 unfold w5
 rw [C9,Hp W hn]
 unfold yO at e
 cases h:(qx sz dt lt pl).filter λq=>q.1==m7 (dt n) (lt n) with
 |nil=>rw [h] at e;cases e
 |cons q t=>rw [h] at e;cases e;rfl
theorem N3:(t.map λx=>pq (128+x)).flatten=toks (mS t):=by
 unfold toks mS
 rw [cn,aB];rfl
theorem Qq (hc:c∈sO):vx (m7 k c):=λd hd=>by
 rcases ar.mp hd with h|h
 ·rw [(dW.mp h).2];decide
 ·rw [ak.mp h]
  exact (by decide: ∀c∈sO,c<256) c hc
theorem OQ (hc:c<256):vx (pq c):=(by decide+kernel: ∀c<256,∀d∈pq c,d<256) c hc
theorem E1 (W:uK sz dt lt) (hp: ∀n<4,∀h<sz n,pl n h<128): ∀q∈qx sz dt lt pl,vx q.1/\vx q.2:=λq hq=>by
 refine yN (vY W hq) λi hi m hm hl T1=> ?_;obtain rfl:=T1
 exact ⟨Qq (W.lets m hm),OQ (by have:=hp m hm i hl;exact (my (.i (.b xA xR) (.b (.a xR xA) (.c 256))) [_]) this)⟩
theorem O0 (W:uK sz dt lt): ∀q∈qx sz dt lt pl,y3 q.1:=λq hq=>by
 refine yN (vY W hq) λi hi m hm hl T1=> ?_;obtain rfl:=T1
 exact zF (NJ W hi hm) (W.lets m hm)
theorem Fg (W:uK sz dt lt):(qx sz dt lt pl).length<=20:=by
 have:=wA sz dt lt pl (sz 3) 0 (by decide)
 have:=W.five
 show (sL sz dt lt pl (sz 3) 0).length<=20;exact (my (.i (.l xA (.a (.m 4 xB) xJ)) (.i (.l xB xN) (.l xA (.c 20)))) [_,_]) (by assumption) this
end
def v5:List eh:=Fo (nj nA 17)
section
variable {w:av} {A:aX} {g g':aW} {L D:aF} {is:List aF} {σ:mX} {Λ:List (aF×List PV)} {b:List eh} {J:hF->aW->Prop}
theorem R8 (G:Gd w 5 (cH A g L D is g')) {dt lt:Nat->Nat} (hn:n<4) (VK:dt n<3) (x0:σ.lookup ("n":Str)=aa (.int ((0:Int)+n))) (x2:σ.lookup ("dots":Str)=aa (.list ((ag 4).map λn=>.int (dt n:Nat)))) (x3:σ.lookup ("letters":Str)=aa (.list ((ag 4).map λn=>.str (S [lt n]))))
  (hb:mT mu w (cH A g L D is g').env (cH A g L D is g').A (In (cH A g L D is g') (("name",.str (S (m7 (dt n) (lt n))))::σ) Λ) b J):mT mu w (cH A g L D is g').env (cH A g L D is g').A (In (cH A g L D is g') σ Λ) (nj v5 0::b) J:=by
 have hz:=aw
 have e0:((0:Int)+n).toNat=n:=by exact my (.e (.t (.a xJ (.k xA))) xA) [_]
 refine mM (p:=.str (S (m7 (dt n) (lt n)))) (mQ (mJ (p:=.str (S (aG (dt n) [46]).flatten)) (q:=.str (S [lt n])) (mJ (p:=.str (S [46])) (q:=.int (dt n:Nat)) (m6 (by kernel_rfl)) (nq (p:=.list ((ag 4).map λn=>.int (dt n:Nat))) (q:=.int ((0:Int)+n)) (nw x2) (nw x0) (m5 (by exact my (.L xJ (.a xJ (.k xA))) [_]) (by rw [e0];exact oS hn) (by exact (my (.i (.b xA xK) (.B (.a xJ (.k xA)) xS)) [_]) hn))) (ye (by decide) (by exact (my (.i (.b xA xO) (.l xA xQ)) [_]) VK)))
   (nq (p:=.list ((ag 4).map λn=>.str (S [lt n]))) (q:=.int ((0:Int)+n)) (nw x3) (nw x0) (m5 (by exact my (.L xJ (.a xJ (.k xA))) [_]) (by rw [e0];exact oS hn) (by exact (my (.i (.b xA xK) (.B (.a xJ (.k xA)) xS)) [_]) hn))) (ox ?a5)) ?a6) hb (.inr ⟨L+9,n8.loop (B4 (by rfl) (by rfl))⟩)
 case a5=>rw [zB,a8];exact (my (.i (.b xA xO) (.i (.e xB xL) (.l (.a xA xI) xB))) [_,_]) VK hz
 case a6=>rw [zB];rfl
set_option maxHeartbeats 1000000 in
theorem RT (G:Gd w 5 (cH A g L D is g')) {Q:HP} (hl:Q.length<=100) (x0:σ.lookup ("name":Str)=aa (.str (S nm))) (x1:σ.lookup ("due":Str)=aa (.list (hp Q)))
  (hb:mT mu w (cH A g L D is g').env (cH A g L D is g').A (In (cH A g L D is g') (("own",.list (((Q.filter λq=>q.1==nm).map (·.2)).map λx=>.str (S x)))::σ) Λ) b J):mT mu w (cH A g L D is g').env (cH A g L D is g').A (In (cH A g L D is g') σ Λ) (nj v5 1::b) J:=by
 have hz:=aw
 refine wn (l:=Q) (V:=λq=>.tup [.str (S q.1),.str (S q.2)]) (bs:=λq=>[("text",.str (S q.2)),("one",.str (S q.1))]) (cl:=[("name",L+9)]) [("name",.str (S nm))] (λq=>q.1==nm) (λq=>.str (S q.2)) ?h1 ?h2 ?h3 ?h4 ?h5 ?ho ?h6 ?h7 ?h8 ?h9 ?h10 ?h11 ?h12
 case h1=>
  refine qF (nw x1) G.room.1 (.inr ⟨⟨_,_,_,rfl⟩,λp hp=> ?_⟩) (λz h=>nomatch h)
  obtain ⟨q,_,rfl⟩:=aK.mp hp
  exact ⟨_,rfl⟩
 case h2=>exact n5 nJ x0 (.inl rfl) (λz=>rfl) (λz=>.inl rfl)
 case h3=>exact λq C g' T6 z=>qS G.room.1
 case h4=>
  intro q C g' T6 _ _ _
  refine yI (mY (p:=.str (S q.1)) (q:=.str (S nm)) ?_ ?_ sV)
  ·walk_at "ev"
  ·walk_at "ev"
 case h5=>
  intro q C g' T6 _ _ _ _ _
  walk_at "ev"
 case ho=>exact λh i=>G.offX i
 case h6=>exact (my (.i (.l xA xP) (.i (.e xB xL) (.l xA xB))) [_,_]) hl hz
 case h7=>exact λz z=>by kernel_rfl
 case h8=>rfl
 case h9=>exact ⟨by rfl,trivial⟩
 case h10=>rfl
 case h11=>decide+kernel
 case h12=>
  have e:((Q.filter λq=>q.1==nm).map λq=>PV.str (S q.2))=((Q.filter λq=>q.1==nm).map (·.2)).map λx=>PV.str (S x):=by rw [aB];rfl
  exact e▸hb
set_option maxHeartbeats 1000000 in
theorem Rz (G:Gd w 5 (cH A g L D is g')) {Q:HP} (hl:Q.length<=100) (XD:Txt.swapcase (S nm)=S nm') (VQ:gx (Txt.swapcase (S nm)).length=false) (Xy:y3 nm') (hQ: ∀q∈Q,y3 q.1) (how:ow=o::r) (h9: ∀x∈ow,vx x) (Xf:ow.length<=100)
  (V9:w5 Q nm'= .str (S o)) (Xs:(Q.filter λq=>oG q.1==oG nm').map (·.2)=ow) (hΛ:(D,hp Q)∈Λ) (x0:σ.lookup ("name":Str)=aa (.str (S nm))) (x1:σ.lookup ("own":Str)=aa (.list (ow.map λx=>.str (S x)))) (x2:σ.lookup ("struck":Str)=aa (.inst D))
  (hb:mT mu w (cH A g L D is g').env (cH A g L D is g').A (In (cH A g L D is g') σ Λ) b J):mT mu w (cH A g L D is g').env (cH A g L D is g').A (In (cH A g L D is g') σ Λ) (nj v5 2::b) J:=by
 have hz:=aw
 have hu:(cH A g L D is g').A.units+64<fw:=by have:=G.room.2.2;exact (my (.i (.b (.a (.a xA (.m 10 xN)) xP) xB) (.b (.a xA (.c 64)) xB)) [_,_]) this
 refine m9 (d:=false) (mY (p:=.list ((o::ow).map λx=>.str (S x))) (q:=.list ((o::ow).map λx=>.str (S x))) ?l ?r (HB hu ?h9)) (λh=>by exact oJ h) (λy=>hb)
 case h9=>
  intro x hx
  rcases ao.mp hx with rfl|hx
  ·exact h9 _ (by exact how▸(.head _))
  ·exact h9 x hx
 case l=>
  refine mJ (p:=.list [.str (S o)]) (q:=.list (ow.map λx=>.str (S x))) (pX (mz (mQ (Bd (Gd.sub (m:=2) G (by decide)) (l:=Q) (sE (nw x2) hΛ) (Em (nm:=nm') (by exact (my (.i (.l xA xP) (.l xA xQ)) [_]) hl) Xy hQ) (by kernel_rfl) (HR _).e (by kernel_rfl) (by kernel_rfl)
   (mz (qW (p:=.str (S nm)) (T:="str") (nw x0) oj F.plainAttrs_str F.slot_str_swapcase F.type_str_swapcase (qw (wi VQ) (by rw [XD]))) mI) yq) V9) mI) (by exact (my (.i (.e xA xL) (.l xI xA)) [_]) hz))
   (mQ (Bd (Gd.sub (m:=2) G (by decide)) (l:=Q) (sE (nw x2) hΛ) (FZ (nm:=nm') (by exact (my (.i (.l xA xP) (.l xA xQ)) [_]) hl) Xy hQ) (by kernel_rfl) (Nm _).e (by kernel_rfl) (by kernel_rfl)
   (mz (qW (p:=.str (S nm)) (T:="str") (nw x0) oj F.plainAttrs_str F.slot_str_swapcase F.type_str_swapcase (qw (wi VQ) (by rw [XD]))) mI) yq) ?e) (pN ?z)
  case e=>rw [<-Xs,aB];rfl
  case z=>rw [ah];exact (my (.i (.l xA xP) (.i (.e xB xL) (.l (.a xI xA) xB))) [_,_]) Xf hz
 case r=>
  have e:qY (ow.map λx=>PV.str (S x)) az (aa ((1:Nat):Int))=[.str (S o)]:=by rw [Jr,how];rfl
  refine mJ (p:=.list [.str (S o)]) (q:=.list (ow.map λx=>.str (S x))) (mQ (tA (ps:=ow.map λx=>.str (S x)) (lo:=az) (hi:=aa ((1:Nat):Int)) (nw x1) rG (nY mN) (by rw [ah];exact (my (.i (.l xA xP) (.i (.e xB xL) (.l xA xB))) [_,_]) Xf hz)) (by rw [e])) (nw x1) (pN (by rw [ah];exact (my (.i (.l xA xP) (.i (.e xB xL) (.l (.a xI xA) xB))) [_,_]) Xf hz))
theorem RQ (G:Gd w 5 (cH A g L D is g')) {n:Nat} (ht: ∀x∈t,x<128) (h5:t.length<=5) (x0:σ.lookup ("n":Str)=aa (.int ((0:Int)+n))) (x1:σ.lookup ("told":Str)=aa (.list tv)) (XB:tv[n]? =aa (.list (t.map λx:Nat=>PV.int x))) (hn:n<4)
  (hb:mT mu w (cH A g L D is g').env (cH A g L D is g').A (In (cH A g L D is g') (("octets",.str (S (mS t)))::σ) Λ) b J):mT mu w (cH A g L D is g').env (cH A g L D is g').A (In (cH A g L D is g') σ Λ) (nj v5 3::b) J:=by
 have hz:=aw
 have e0:((0:Int)+n).toNat=n:=by exact my (.e (.t (.a xJ (.k xA))) xA) [_]
 refine mM (p:=.str (S (mS t))) (GF (Gd.sub (m:=1) G (by decide)) ?b1 ht (by exact (my (.i (.l xA xN) (.l xA xP)) [_]) h5) ?b2 ?b3 ?b4 ?b5 ?b6 ?b7 ?b8 ?b9 ?b10 ?b11 ?b12 ?b13 ?b14) hb
 case b1=>exact nq (p:=.list tv) (q:=.int ((0:Int)+n)) (nw x1) (nw x0) (m5 (by exact my (.L xJ (.a xJ (.k xA))) [_]) (by rw [e0];exact XB) (by exact (my (.i (.b xA xK) (.B (.a xJ (.k xA)) xS)) [_]) hn))
 case b2=>exact λh i=>G.offX i
 case b3=>rfl
 case b4=>rfl
 case b5=>decide+kernel
 case b6=>exact λz z z=>.inl (by rfl)
 case b7=>exact λz z z=>by rfl
 case b8=>exact λz z z=>by rfl
 case b9=>exact λz=>by rfl
 case b10=>rfl
 case b11=>exact λz z z=>by rfl
 case b12=>rfl
 case b13=>rfl
 case b14=>rfl
end
theorem Kk: ∀ls:List (List Nat),jn [] ls=ls.flatten
 |[]=>rfl
 |[x]=>by simp [jn]
 |x::y::r=>by rw [jn,Kk (y::r)];simp
def pw (t:List Nat):List Nat:=ot++toks (mS t)++[63,61]
theorem Bj (h5:t.length<=5):(pw t).length<=23:=by
 unfold pw
 rw [af,af,tc,mS,ah]
 exact (my (.i (.l xA xN) (.l (.a (.a (.c 6) (.m 3 xA)) xM) (.c 23))) [_]) h5
section
variable {w:av} {A:aX} {g g':aW} {L D:aF} {is:List aF} {σ:mX} {Λ:List (aF×List PV)} {b:List eh} {J:hF->aW->Prop}
set_option maxHeartbeats 1000000 in
theorem Ry (G:Gd w 5 (cH A g L D is g')) {n:Nat} (ht: ∀x∈t,x<128) (h5:t.length<=5) (Uk:t≠[]) (x0:σ.lookup ("n":Str)=aa (.int ((0:Int)+n))) (x1:σ.lookup ("told":Str)=aa (.list tv)) (XB:tv[n]? =aa (.list (t.map λx:Nat=>PV.int x))) (hn:n<4)
  (hb:mT mu w (cH A g L D is g').env (cH A g L D is g').A (In (cH A g L D is g') (("coded",.str (S (pw t)))::σ) Λ) b J):mT mu w (cH A g L D is g').env (cH A g L D is g').A (In (cH A g L D is g') σ Λ) (nj v5 4::b) J:=by
 have hz:=aw
 have e0:((0:Int)+n).toNat=n:=by exact my (.e (.t (.a xJ (.k xA))) xA) [_]
 have hob:=tW ht
 refine mM (p:=.str (S (pw t))) (mQ (oE (Gd.sub (m:=1) G (by decide)) (ps:=[.bytes ((mS t).map ia).toArray,.str (S [120])]) (by kernel_rfl) (Ix _).e (mz (mQ (n9 G (ps:=[.list (((mS t).map λx:Nat=>(x:Int)).map .int)]) (by kernel_rfl) (by kernel_rfl) (mz ?c mI) (Kc ?r ?z G.room.1) (.inr ⟨_,rfl⟩)) ?e) (mz (m6 (by kernel_rfl)) mI)) (Jj ?h1 ?h2 (by decide))) ?h3) hb
 case r=>
  intro m hm
  refine mR (aK.mp hm) λc hc T1=> ?_;obtain rfl:=T1
  have:=hob c hc;exact (my (.i (.b xA (.c 256)) (.a (.L xJ (.k xA)) (.B (.k xA) (.c 256)))) [_]) this.2
 case z=>rw [ah,mS,ah];exact (my (.i (.l xA xN) (.l xA xQ)) [_]) h5
 case h1=>intro q;apply Uk;have:=congrArg bj q;rw [ah,mS,ah] at this;exact cC this
 case h2=>rw [ah,mS,ah];exact h5
 case h3=>rw [Pe ht Uk];rfl
 case e=>
  unfold byteArr
  rw [aB];rfl
 case c=>
  refine .mk λs i=>Ev.run (mQ (pG (l:=t) (V:=λx:Nat=>PV.int x) (bs:=λx=>[("x",.int (x:Nat))]) (cl:=[]) [] (λz=>ai) (λx:Nat=>.int ((128+x:Nat):Int))
    ?k1 nJ (λz z z z z=>nO) (λz z z z z z z=>og) ?k5 ?k6 (λz z=>rfl) (by rfl) trivial (by rfl) (by decide+kernel)) ?k12) s i
  case k1=>exact qF (nq (p:=.list tv) (q:=.int ((0:Int)+n)) (nw x1) (nw x0) (m5 (by exact my (.L xJ (.a xJ (.k xA))) [_]) (by rw [e0];exact XB) (by exact (my (.i (.b xA xK) (.B (.a xJ (.k xA)) xS)) [_]) hn))) G.room.1 (.inl ⟨_,_,rfl⟩) (λz h=>nomatch h)
  case k5=>
   intro x C g2 T6 hx _ k hf
   refine mQ (mJ (p:=.int 128) (q:=.int (x:Nat)) mN ?_ nV) (by congr 1)
   walk_at "ev"
  case k6=>exact (my (.i (.l xA xN) (.i (.e xB xL) (.l xA xB))) [_,_]) h5 hz
  case k12=>rw [wd,mS,aB,aB];rfl
set_option maxHeartbeats 1000000 in
theorem Rq (G:Gd w 5 (cH A g L D is g')) {Q:HP} {lt:Nat->Nat} {n:Nat} (h5:t.length<=5) (hl:Q.length<=100) (hne1: ∀q∈Q,q.1≠[]) (hv: ∀q∈Q,q.2.length<=3) (x0:σ.lookup ("n":Str)=aa (.int ((0:Int)+n))) (x1:σ.lookup ("coded":Str)=aa (.str (S (pw t)))) (x2:σ.lookup ("struck":Str)=aa (.inst D)) (x3:σ.lookup ("letters":Str)=aa (.list ((ag 4).map λn=>.str (S [lt n])))) (hn:n<4)
  (hΛ:(D,hp Q)∈Λ) (hj:((Q.filter λq=>[q.1.getLast?.getD 0]==[lt n]).map (·.2)).flatten=toks (mS t))
  (hb:mT mu w (cH A g L D is g').env (cH A g L D is g').A (In (cH A g L D is g') σ Λ) b J):mT mu w (cH A g L D is g').env (cH A g L D is g').A (In (cH A g L D is g') σ Λ) (nj v5 5::b) J:=by
 have hz:=aw
 have e0:((0:Int)+n).toNat=n:=by exact my (.e (.t (.a xJ (.k xA))) xA) [_]
 have UW:=Bj h5
 have Wa:(toks (mS t)).length<=15:=by rw [tc,mS,ah];exact (my (.i (.l xA xN) (.l (.m 3 xA) (.c 15))) [_]) h5
 refine m9 (d:=false) (mY (p:=.str (S (pw t))) (q:=.str (S (pw t))) (nw x1) ?r (by have:=t4 (prog:=mu) (w:=w) (A:=(cH A g L D is g').A) (X:=(cH A g L D is g').X) (a:=pw t) (b:=pw t);rw [show (pw t !=pw t)=false by simp] at this;exact this)) (λh=>by exact oJ h) (λz=>hb)
 case r=>
  refine mJ (p:=.str (S (ot++toks (mS t)))) (q:=.str (S [63,61])) (mJ (p:=.str (S ot)) (q:=.str (S (toks (mS t)))) (m6 (by kernel_rfl)) ?j (ox ?z1)) (m6 (by kernel_rfl)) (ox ?z2)
  case z1=>exact (my (.i (.e xB xL) (.i (.l xA (.c 15)) (.l (.a (.c 6) xA) xB))) [_,_]) hz Wa
  case z2=>rw [af];exact (my (.i (.e xB xL) (.i (.l xA (.c 15)) (.l (.a (.a (.c 6) xA) xM) xB))) [_,_]) hz Wa
  case j=>
   refine rg (p:=.str (S [])) (T:="str") (m6 (by kernel_rfl)) oj F.plainAttrs_str F.slot_str_join F.type_str_join (mz (p:=.list ((((Q.filter λq=>[q.1.getLast?.getD 0]==[lt n]).map (·.2)).map S).map PV.str)) ?c mI) (qw (v4 (ua ?hj)) ?e)
   case e=>
    rw [Q4 (yl [] _),Kk,hj]
   case hj=>
    rw [hj];exact (my (.i (.l xA (.c 15)) (.l (.a xA (.r xB 0)) (.c 1000000))) [_,_]) Wa
   case c=>
    refine .mk λs i=>Ev.run (mQ (pG (c:=cH A g L D is g') (l:=Q) (V:=λq=>.tup [.str (S q.1),.str (S q.2)]) (bs:=λq=>[("text",.str (S q.2)),("one",.str (S q.1))]) (cl:=[("n",L+4),("letters",L+7)]) [("n",.int ((0:Int)+n)),("letters",.list ((ag 4).map λn=>.str (S [lt n])))] (λq=>[q.1.getLast?.getD 0]==[lt n]) (λq=>.str (S q.2))
     ?k1 ?k2 (λz z z z z=>qS G.room.1) ?k4 ?k5 ?k6 (λz z=>by kernel_rfl) (by rfl) ⟨by rfl,by rfl,trivial⟩ (by rfl) (by decide+kernel)) ?k12) s i
    case k1=>
     refine qF (w7 (Gd.sub (m:=1) G (by decide)) (l:=Q) (sE (nw x2) hΛ) (yt (by exact (my (.i (.l xA xP) (.l xA xQ)) [_]) hl)) (by kernel_rfl) (DY _).e (by kernel_rfl) (by kernel_rfl)) G.room.1 (.inr ⟨⟨_,_,_,rfl⟩,λp hp=> ?_⟩) (λz h=>nomatch h)
     obtain ⟨q,_,rfl⟩:=aK.mp hp
     exact ⟨_,rfl⟩
    case k2=>exact n5 (n5 nJ x3 (.inl rfl) (λz=>rfl) (λz=>.inl rfl)) x0 (.inl rfl) (λz=>rfl) (λz=>.inl rfl)
    case k4=>
     intro q C g2 T6 hq _ _
     obtain ⟨y,hy⟩: ∃y,q.1.getLast? =aa y:=⟨_,c7 (hne1 q hq)⟩
     rw [hy]
     refine yI (mY (p:=.str (S [y])) (q:=.str (S [lt n])) (nq (p:=.str (S q.1)) (q:=.int (-1)) ?_ (rX mN oI) (tI hy)) (nq (p:=.list ((ag 4).map λn=>.str (S [lt n]))) (q:=.int ((0:Int)+n)) ?_ ?_ (m5 (by exact my (.L xJ (.a xJ (.k xA))) [_]) (by rw [e0];exact oS hn) (by exact (my (.i (.b xA xK) (.B (.a xJ (.k xA)) xS)) [_]) hn))) sV)
     ·walk_at "ev"
     ·walk_at "ev"
     ·walk_at "ev"
    case k5=>
     intro q C g2 T6 _ _ _ _
     walk_at "ev"
    case k6=>exact (my (.i (.l xA xP) (.i (.e xB xL) (.l xA xB))) [_,_]) hl hz
    case k12=>rw [aB,aB];rfl
end
theorem IG (h:n<=1000):gx n=false:=by
 have hz:=aw
 have:n<=bn:=by exact (my (.i (.l xA xQ) (.i (.e xB xL) (.l xA xB))) [_,_]) h hz
 simpa [gx] using this
theorem Bl (t:List Nat):(pw t).dropLast=ot++toks (mS t)++[63]:=by
 unfold pw
 rw [show ([63,61]:List Nat)=[63]++[61] from rfl,<-aJ,lb]
theorem H9 (ti:List Nat) (y:Nat):pw (ti++[y])=(ot++toks (mS ti))++[61,pA ((128+y)/16)]++[pA ((128+y) % 16),63,61]:=by
 unfold pw toks mS
 rw [bi,bV]
 show ot++(_++([61,pA ((128+y)/16),pA ((128+y) % 16)]++[]))++[63,61]=_
 simp
theorem O6 (a b c:List α) (hb:1<=b.length) (hc:1<=c.length):qY (a++b++c) az (aa (-(c.length:Int)))=a++b/\qY (a++b++c) (aa (-((b.length+c.length:Nat):Int))) (aa (-(c.length:Int)))=b:=by
 constructor
 ·rw [BC _ _ hc,af,jb,gk]
 ·unfold qY
  show (List.drop (dQ _ _) _).take (dQ _ _ - dQ _ _)=_
  rw [A2 _ (b.length+c.length) (by exact (my (.i (.l xI xB) (.l xI (.a xA xB))) [_,_]) hc),A2 _ c.length hc]
  have h1:(a++b++c).length - (b.length+c.length)=a.length:=by rw [af,af];exact my (.e (.s (.a (.a xA xB) xC) (.a xB xC)) xA) [_,_,_]
  have h2:(a++b++c).length - c.length - a.length=b.length:=by rw [af,af];exact my (.e (.s (.s (.a (.a xA xB) xC) xC) xA) xB) [_,_,_]
  rw [h1,h2,aJ,List.drop_left,gk]
section
variable {w:av} {A:aX} {g g':aW} {L D:aF} {is:List aF} {σ:mX} {Λ:List (aF×List PV)} {b:List eh} {J:hF->aW->Prop}
theorem Hc:n0 mu w A X (bP .NotEq) (.str (S a)) (.str (S a)) (.bool false):=by
 have:=t4 (prog:=mu) (w:=w) (A:=A) (X:=X) (a:=a) (b:=a)
 rw [show (a !=a)=false by simp] at this;exact this
set_option maxHeartbeats 2000000 in
theorem RK (G:Gd w 5 (cH A g L D is g')) (ht: ∀x∈t,x<128) (h5:t.length<=5) (Uk:t≠[]) (hm:sW mark) (x0:σ.lookup ("octets":Str)=aa (.str (S (mS t)))) (x1:σ.lookup ("coded":Str)=aa (.str (S (pw t)))) (x2:σ.lookup ("mark":Str)=aa (.str (S mark)))
  (hb:mT mu w (cH A g L D is g').env (cH A g L D is g').A (In (cH A g L D is g') σ Λ) b J):mT mu w (cH A g L D is g').env (cH A g L D is g').A (In (cH A g L D is g') σ Λ) (nj v5 6::b) J:=by
 have hz:=aw
 have UW:=Bj h5
 refine ni (tX hm) λz z z z z m2=> ?_
 have hob:=tW ht
 have Wc:(mS t).length<=5:=by rw [mS,ah];exact h5
 refine m9 (d:=(false||(false||false))) (Bi (C3 (mY (p:=.str (S (ot++mS t++[63]))) (q:=.str (S (ot++mS t++[63]))) ?l1 ?r1 Hc) (λz=>C3 ?two (λz=>L5)))) (λh=>by exact oJ h) (λz=>hb)
 case r1=>
  refine mJ (p:=.str (S (ot++mS t))) (q:=.str (S [63])) (mJ (p:=.str (S ot)) (q:=.str (S (mS t))) (m6 (by kernel_rfl)) (nw x0) (ox ?z1)) (m6 (by kernel_rfl)) (ox ?z2)
  case z1=>exact (my (.i (.e xB xL) (.i (.l xA xN) (.l (.a (.c 6) xA) xB))) [_,_]) hz Wc
  case z2=>rw [af];exact (my (.i (.e xB xL) (.i (.l xA xN) (.l (.a (.a (.c 6) xA) xI) xB))) [_,_]) hz Wc
 case l1=>
  have VS: ∀c∈ot++toks (mS t)++[63],c∈qZ:=by
   intro c hc
   rcases ar.mp hc with hc|hc
   ·rcases ar.mp hc with hc|hc
    ·exact (by decide: ∀c∈ot,c∈qZ) c hc
    ·exact zp hob c hc
   ·exact (by decide: ∀c∈[63],c∈qZ) c hc
  have Ue:(ot++toks (mS t)++[63]).length<=23:=by rw [<-Bl,fT];exact (my (.i (.l xA (.c 23)) (.l (.s xA xI) (.c 23))) [_]) UW
  have hlow:=JJ VS
  refine mQ (oE (Gd.sub (m:=2) G (by decide)) (ps:=[.str (S ((ot++toks (mS t)++[63]).map lw++[32,9])),.str (S mark)]) (by kernel_rfl) (CC _).e (mz (mJ (p:=.str (S ((ot++toks (mS t)++[63]).map lw))) (q:=.str (S [32,9]))
   (qW (p:=.str (S (ot++toks (mS t)++[63]))) (T:="str") (mQ (tQ (l:=pw t) (lo:=az) (hi:=aa (-1)) (nw x1) rG (nY (rX mN oI)) ?s1) ?s2) oj F.plainAttrs_str F.slot_str_lower F.type_str_lower (qw (vf ?s3) ?s4)) (m6 (by kernel_rfl)) (ox ?s5)) (mz (nw x2) mI)) (wV ?s6 ?s7 m2)) (by rw [N5 hob hm])
  case s1=>exact (my (.i (.e xB xL) (.i (.l xA (.c 23)) (.l xA xB))) [_,_]) hz UW
  case s2=>rw [A8,Bl]
  case s3=>rw [hlow,mW,ah];exact IG (by exact (my (.i (.l xA (.c 23)) (.l xA xQ)) [_]) Ue)
  case s4=>rw [hlow]
  case s5=>rw [ah];exact (my (.i (.e xB xL) (.i (.l xA (.c 23)) (.l (.a xA xM) xB))) [_,_]) hz Ue
  case s6=>simp
  case s7=>rw [af,ah];exact (my (.i (.l xA (.c 23)) (.l (.a xA xM) xQ)) [_]) Ue
 case two=>
  obtain ⟨ti,y,rfl⟩: ∃ti y,t=ti++[y]:=⟨t.dropLast,t.getLast Uk,(jI Uk).symm⟩
  have hti: ∀x∈ti,x<128:=λx hx=>ht x (ax _ hx)
  have hy:y<128:=ht y (aM _ (.head _))
  have hoi:=tW hti
  have hcs:=H9 ti y
  have WS:=O6 (ot++toks (mS ti)) [61,pA ((128+y)/16)] [pA ((128+y) % 16),63,61] (by simp) (by simp)
  rw [<-hcs] at WS
  have hoc:mS (ti++[y])=mS ti++[128+y]:=by unfold mS;rw [bi];rfl
  have hhx:=(AJ (128+y) (by exact (my (.i (.b xA xR) (.b (.a xR xA) (.c 256))) [_]) hy)).1
  have hil:(mS ti).length<=5:=by rw [hoc,af] at Wc;exact (my (.i (.l (.a xA xB) xN) (.l xA xN)) [_,_]) Wc
  have Xw:(toks (mS ti)).length<=15:=by rw [tc];exact (my (.i (.l xA xN) (.l (.m 3 xA) (.c 15))) [_]) hil
  have c3:qY (pw (ti++[y])) az (aa (-3))=ot++toks (mS ti)++[61,pA ((128+y)/16)]:=WS.1
  have c5:qY (pw (ti++[y])) (aa (-5)) (aa (-3))=[61,pA ((128+y)/16)]:=WS.2
  refine mY (p:=.str (S (ot++mS ti++[61,pA ((128+y)/16)]))) (q:=.str (S (ot++mS ti++[61,pA ((128+y)/16)]))) ?l ?r Hc
  case l=>
   refine mQ (oE (Gd.sub (m:=2) G (by decide)) (ps:=[.str (S (ot++toks (mS ti)++[61,pA ((128+y)/16)])),.str (S mark)]) (by kernel_rfl) (CC _).e (mz (mQ (tQ (l:=pw (ti++[y])) (lo:=az) (hi:=aa (-3)) (nw x1) rG (nY (rX mN oI)) ?s1) (by rw [c3])) (mz (nw x2) mI)) (wV ?s6 ?s7 m2)) (by rw [N4 hoi hhx hm])
   case s1=>exact (my (.i (.e xB xL) (.i (.l xA (.c 23)) (.l xA xB))) [_,_]) hz UW
   case s6=>simp
   case s7=>rw [af,af];exact (my (.i (.l xA (.c 15)) (.l (.a (.a (.c 6) xA) xM) xQ)) [_]) Xw
  case r=>
   refine mJ (p:=.str (S (ot++mS ti))) (q:=.str (S [61,pA ((128+y)/16)])) (mJ (p:=.str (S ot)) (q:=.str (S (mS ti))) (m6 (by kernel_rfl)) (mQ (tQ (l:=mS (ti++[y])) (lo:=az) (hi:=aa (-1)) (nw x0) rG (nY (rX mN oI)) ?s1) ?s2) (ox ?z1)) (mQ (tQ (l:=pw (ti++[y])) (lo:=aa (-5)) (hi:=aa (-3)) (nw x1) (nY (rX mN oI)) (nY (rX mN oI)) ?s3) (by rw [c5])) (ox ?z2)
   case s1=>exact (my (.i (.e xB xL) (.i (.l xA xN) (.l xA xB))) [_,_]) hz Wc
   case s2=>rw [A8,hoc,lb]
   case s3=>exact (my (.i (.e xB xL) (.i (.l xA (.c 23)) (.l xA xB))) [_,_]) hz UW
   case z1=>exact (my (.i (.e xB xL) (.i (.l xA xN) (.l (.a (.c 6) xA) xB))) [_,_]) hz hil
   case z2=>rw [af];exact (my (.i (.e xB xL) (.i (.l xA xN) (.l (.a (.a (.c 6) xA) xM) xB))) [_,_]) hz hil
end
noncomputable def LE:List Str:=["n","name","own","octets","coded"]
noncomputable def yB (sz:Nat->Nat) (pl:Nat->Nat->Nat) (n:Nat):List Nat:=(ag (sz n)).map (pl n)
section
variable {w:av} {A:aX} {g g':aW} {L D:aF} {is:List aF} {σ:mX} {Λ:List (aF×List PV)} {b:List eh} {J:hF->aW->Prop}
set_option maxHeartbeats 1000000 in
theorem Jw (G:Gd w 5 (cV A g L D)) {pl:Nat->Nat->Nat} (W:uK sz dt lt) (V2: ∀n<4,∀h<sz n,pl n h<128) (Wa: ∀n<4,sC rs n=(yB sz pl n).map λx:Nat=>(x:Int)) (hm:sW mark) (hκ:Ap κ LE)
  (x1:κ.lookup ("told":Str)=aa (vC rs)) (x2:κ.lookup ("due":Str)=aa (.list (hp (qx sz dt lt pl)))) (x3:κ.lookup ("letters":Str)=aa (.list ((ag 4).map λn=>.str (S [lt n])))) (x4:κ.lookup ("dots":Str)=aa (.list ((ag 4).map λn=>.int (dt n:Nat)))) (x5:κ.lookup ("mark":Str)=aa (.str (S mark))) (x6:κ.lookup ("struck":Str)=aa (.inst D))
  (hb:mT mu w (cV A g L D).env (cV A g L D).A (In (cV A g L D) κ [(D,hp (qx sz dt lt pl))]) b J):
  mT mu w (cV A g L D).env (cV A g L D).A (In (cV A g L D) κ [(D,hp (qx sz dt lt pl))]) (nj nA 17::b) J:=by
 have hz:=aw
 refine rJ G (l:=ag 4) (V:=λi:Nat=>.int ((0:Int)+i)) (bs:=λi=>[("n",.int ((0:Int)+i))]) (λz=>κ) (λz=>[(D,hp (qx sz dt lt pl))]) ?h1 rfl rfl (λa is z=>nO (.inr ⟨L+4,n8.addX (B4 (by rfl) (by rfl))⟩)) ?h2 ?h3
 case h1=>exact pW G.zero (n:=4) mN (by exact my (.l xK xQ) [] []) (by rfl)
 case h2=>
  intro i n g2 U2 hx G2
  refine eA (AP hx) λT1 hn=> ?_;obtain rfl:=T1
  have Ue:=Fg (pl:=pl) W
  have hlets:=W.lets n hn
  have VK:=W.dots n hn
  have f:=rA (dt n) (by exact (my (.i (.b xA xO) (.b xA (.c 7))) [_]) VK) (lt n) hlets
  have hlo:=E1 W V2
  have hs:=W.some n hn
  have h5:(yB sz pl n).length<=5:=by unfold yB;rw [ah,be];have:=W.five;exact (my (.i (.l xA xB) (.i (.l xB xN) (.l xA xN))) [_,_]) hs.2 this
  have Uk:yB sz pl n≠[]:=by
   intro q
   have:=congrArg bj q
   unfold yB at this
   rw [ah,be] at this
   have e:([]:List Nat).length=0:=rfl
   exact (my (.i (.l xI xA) (.i (.e xA xB) (.n (.e xB xJ)))) [_,_]) hs.1 this e
  have ht: ∀x∈yB sz pl n,x<128:=λx hx=>by
   obtain ⟨h,hh,rfl⟩:=aK.mp hx
   exact V2 n hn h (aL.mp hh)
  refine rN (JE (pl:=pl) W hn) λo r how=> ?_
  have Wc:(yO sz dt lt pl n).length<=100:=by
   unfold yO
   rw [ah]
   have:=kS (λq:List Nat×List Nat=>q.1==m7 (dt n) (lt n)) (qx sz dt lt pl)
   exact (my (.i (.l xB (.c 20)) (.i (.l xA xB) (.l xA xP))) [_,_]) Ue this
  have ho9: ∀x∈yO sz dt lt pl n,vx x:=λx hx=>by
   obtain ⟨q,hq,rfl⟩:=aK.mp hx
   exact (hlo q (eX.mp hq).1).2
  have XB:((ag 4).map λn=>il (sC rs n))[n]? =aa (.list ((yB sz pl n).map λx:Nat=>PV.int x)):=by
   rw [oS hn,Wa n hn]
   show aa (PV.list (eV PV.int (eV _ _)))=_
   rw [aB];rfl
  refine R8 G2 hn VK (by walk_at "lk") (by walk_at "lk") (by walk_at "lk") ?_
  refine RT G2 (Q:=qx sz dt lt pl) (by exact (my (.i (.l xA (.c 20)) (.l xA xP)) [_]) Ue) (by walk_at "lk") (by walk_at "lk") ?_
  refine Rz G2 (Q:=qx sz dt lt pl) (nm:=m7 (dt n) (lt n)) (nm':=m7 (dt n) (y4 (lt n))) (ow:=yO sz dt lt pl n) (o:=o) (r:=r) (by exact (my (.i (.l xA (.c 20)) (.l xA xP)) [_]) Ue) f.2.2.1 f.2.2.2.2.1 (zF (by exact (my (.i (.b xA xO) (.b xA (.c 7))) [_]) VK) f.2.2.2.2.2.1) (O0 W) how ho9 Wc (O1 W hn how) (by rw [Hp W hn];rfl) (.head _) (by walk_at "lk") (by walk_at "lk") (by walk_at "lk") ?_
  refine RQ G2 ht h5 (by walk_at "lk") (tv:=(ag 4).map λn=>il (sC rs n)) (by walk_at "lk") XB hn ?_
  refine Ry G2 ht h5 Uk (by walk_at "lk") (tv:=(ag 4).map λn=>il (sC rs n)) (by walk_at "lk") XB hn ?_
  refine Rq G2 (t:=yB sz pl n) (Q:=qx sz dt lt pl) (lt:=lt) h5 (by exact (my (.i (.l xA (.c 20)) (.l xA xP)) [_]) Ue) ?n1 ?n2 (by walk_at "lk") (by walk_at "lk") (by walk_at "lk") (by walk_at "lk") hn (.head _) ?n3 ?_
  case n1=>
   intro q hq
   refine yN (vY W hq) λi hi m hm hl T1=> ?_;obtain rfl:=T1
   unfold m7;simp
  case n2=>
   intro q hq
   refine yN (vY W hq) λi hi m hm hl T1=> ?_;obtain rfl:=T1
   exact aN _
  case n3=>
   rw [Jq W hn,aB,<-N3]
   congr 1
   unfold yB
   rw [aB];rfl
  refine RK G2 ht h5 Uk hm (by walk_at "lk") (by walk_at "lk") (by walk_at "lk") ?_
  exact qM (by walk_at "has")
 case h3=>exact hb
end
section
variable {w:av} {A:aX} {g g':aW} {L D:aF} {is:List aF} {σ:mX} {Λ:List (aF×List PV)} {b:List eh} {J:hF->aW->Prop}
theorem Ti:bJ (.BoolOp .And [x,y,z] pos) env=bJ (.BoolOp .And [x,.BoolOp .And [y,z] pos] pos) env:=rfl
theorem NO (hx:Ev mu w φ x p) (t:tO mu w φ.A φ.X p ai) (hy:Ev mu w φ y q) (u:tO mu w φ.A φ.X q ai) (hz:Ev mu w φ z r):Ev mu w φ (.BoolOp .And [x,y,z] pos) r:=.mk λs i=>by
 rw [Ti]
 exact (Cq (a:=ai) (r:=r) hx t (λz=>Cq (a:=ai) (r:=r) hy u (λz=>hz) rfl) rfl).run s i
noncomputable def E5:List (List Nat):=[[109,97,120,108,105,110,101,108,101,110,32,109,117,115,116,32,98,101,32,97,116,32,108,101,97,115,116,32,52],[67,111,110,116,114,111,108,32,99,104,97,114,97,99,116,101,114,115,32,110,111,116,32,97,108,108,111,119,101,100,32,105,110,32,104,101,97,100,101,114,115]]
theorem Om:yi=S (E5[0]):=by decide+kernel
theorem Oz:w2=S (E5[1]):=by decide+kernel
theorem Iz (G:Gd w 5 (cV A g L D)) (x0:σ.lookup ("words":Str)=aa (.list [.str yi,.str w2]))
  (hb:mT mu w (cV A g L D).env (cV A g L D).A (In (cV A g L D) σ Λ) b J):mT mu w (cV A g L D).env (cV A g L D).A (In (cV A g L D) σ Λ) (nj nA 12::b) J:=by
 have hz:=aw
 have hu:(cV A g L D).A.units+64<fw:=by have:=G.room.2.2;exact (my (.i (.b (.a (.a xA (.m 10 xN)) xP) xB) (.b (.a xA (.c 64)) xB)) [_,_]) this
 rw [Om,Oz] at x0
 refine m9 (d:=false) (mY (p:=.list (E5.map λx=>.str (S x))) (q:=.list (E5.map λx=>.str (S x))) (nw x0) (pX (mz (m6 (by kernel_rfl)) (mz (m6 (by kernel_rfl)) mI)) (by exact (my (.i (.e xA xL) (.l xM xA)) [_]) hz)) (HB hu (λx hx=>(by decide: ∀x∈E5,∀c∈x,c<256) x hx))) (λh=>by exact oJ h) (λz=>hb)
theorem Mb (G:Gd w 5 (cV A g L D)) (hW:12<=W) (x0:σ.lookup ("width":Str)=aa (.int (W:Nat))) (x1:σ.lookup ("eol":Str)=aa (.str (S Ud))) (x2:σ.lookup ("mark":Str)=aa (.str (S mark)))
  (hb:mT mu w (cV A g L D).env (cV A g L D).A (In (cV A g L D) (("empty",.list (([[],[],[],[]]:List (List Nat)).map λx=>.str (S x)))::σ) Λ) b J):mT mu w (cV A g L D).env (cV A g L D).A (In (cV A g L D) σ Λ) (nj nA 18::b) J:=by
 have hz:=aw
 refine mM (p:=.list (([[],[],[],[]]:List (List Nat)).map λx=>.str (S x))) (pX (mz ?a (mz ?b (mz ?c (mz ?d mI)))) (by exact (my (.i (.e xA xL) (.l xK xA)) [_]) hz)) hb
 case a=>exact oE (Gd.sub (m:=2) G (by decide)) (ps:=[.str (S []),.int (W:Nat),.str (S Ud)]) (by kernel_rfl) (B5 _).e (mz (m6 (by kernel_rfl)) (mz (nw x0) (mz (nw x1) mI))) (DG (by exact (my (.i (.l (.c 12) xA) (.l xK xA)) [_]) hW))
 case b=>exact oE (Gd.sub (m:=2) G (by decide)) (ps:=[.str (S []),.str (S mark)]) (by kernel_rfl) (CC _).e (mz (m6 (by kernel_rfl)) (mz (nw x2) mI)) Ex
 case c=>exact oE (Gd.sub (m:=1) G (by decide)) (ps:=[.bytes #[]]) (by kernel_rfl) (Ix _).e (mz MC mI) HK
 case d=>exact oE (Gd.sub (m:=1) G (by decide)) (ps:=[.str (S [])]) (by kernel_rfl) (IM _).e (mz (m6 (by kernel_rfl)) mI) (xf (T:=[]) (by decide))
theorem Ql (Q:HP):jg (λp q=>PV.tup [p,q]) (Q.map λq=>.str (S q.1)) (Q.map λq=>.str (S q.2))=hp Q:=by
 induction Q with
 |nil=>rfl
 |cons q Q ih=>rw [ba,ba,List.zipWith_cons_cons,ih];rfl
theorem Md (G:Gd w 5 (cV A g L D)) {Q:HP} (hl:Q.length<=100) (h9: ∀q∈Q,vx q.1/\vx q.2) (hΛ:(D,hp Q)∈Λ) (x0:σ.lookup ("due":Str)=aa (.list (hp Q))) (x2:σ.lookup ("struck":Str)=aa (.inst D))
  (hb:mT mu w (cV A g L D).env (cV A g L D).A (In (cV A g L D) (("whole",.bool ai)::σ) Λ) b J):mT mu w (cV A g L D).env (cV A g L D).A (In (cV A g L D) σ Λ) (nj nA 19::b) J:=by
 have hz:=aw
 have hu:(cV A g L D).A.units+64<fw:=by have:=G.room.2.2;exact (my (.i (.b (.a (.a xA (.m 10 xN)) xP) xB) (.b (.a xA (.c 64)) xB)) [_,_]) this
 refine mM (p:=.bool ai) (Cq (a:=ai) (p:=.bool ai) (q:=.bool ai) (uX (p:=.list (hp Q)) (q:=.list (hp Q)) ?a (nw x0) (Cr hu h9)) qu (λz=>uX (p:=.list (hp Q)) (q:=.list (hp Q)) ?b (nw x0) (Cr hu h9)) rfl) hb
 case a=>exact w7 (Gd.sub (m:=1) G (by decide)) (l:=Q) (sE (nw x2) hΛ) (yt (by exact (my (.i (.l xA xP) (.l xA xQ)) [_]) hl)) (by kernel_rfl) (DY _).e (by kernel_rfl) (by kernel_rfl)
 case b=>
  refine mQ (F3 (ps:=Q.map λq=>.str (S q.1)) (qs:=Q.map λq=>.str (S q.2)) (rU G (by kernel_rfl) (by kernel_rfl)) (s9 (rU G (by kernel_rfl) (by kernel_rfl)) (mz ?k (mz ?v mI))) G.room.1 (by rw [ah,ah]) (by rw [ah];exact (my (.i (.l xA xP) (.l xA (.c 100000))) [_]) hl)) (by rw [Ql])
  case k=>exact w7 (Gd.sub (m:=1) G (by decide)) (l:=Q) (sE (nw x2) hΛ) (C6 (by exact (my (.i (.l xA xP) (.l xA xQ)) [_]) hl)) (by kernel_rfl) (H3 _).e (by kernel_rfl) (by kernel_rfl)
  case v=>exact w7 (Gd.sub (m:=1) G (by decide)) (l:=Q) (sE (nw x2) hΛ) (Gi (by exact (my (.i (.l xA xP) (.l xA xQ)) [_]) hl)) (by kernel_rfl) (NA _).e (by kernel_rfl) (by kernel_rfl)
theorem O5 (G:Gd w 5 (cV A g L D)) (x0:σ.lookup ("whole":Str)=aa (.bool ai)) (x1:σ.lookup ("book":Str)=aa (.hdr (hp []))) (x2:σ.lookup ("empty":Str)=aa (.list (([[],[],[],[]]:List (List Nat)).map λx=>.str (S x)))):
  mT mu w (cV A g L D).env (cV A g L D).A (In (cV A g L D) σ Λ) [nj nA 20] (ux (cV A g L D).g [] (.bool ai)):=by
 have hz:=aw
 have hu:(cV A g L D).A.units+64<fw:=by have:=G.room.2.2;exact (my (.i (.b (.a (.a xA (.m 10 xN)) xP) xB) (.b (.a xA (.c 64)) xB)) [_,_]) this
 refine ng (NO (nw x0) qu (q:=.bool ai) ?b qu ?c) mU.rfl (λz h=>nomatch h)
 case b=>exact uX (p:=.list (hp [])) (q:=.list (hp [])) (w7 (Gd.sub (m:=1) G (by decide)) (l:=[]) (ty (nw x1)) (yt (by decide)) (by kernel_rfl) (DY _).e (by kernel_rfl) (by kernel_rfl)) (pX mI (by exact my (.l xJ xA) [_])) (Cr hu (λz h=>nomatch h))
 case c=>exact uX (p:=.list (([[],[],[],[]]:List (List Nat)).map λx=>.str (S x))) (q:=.list (([[],[],[],[]]:List (List Nat)).map λx=>.str (S x))) (nw x2) (pX (mz (m6 (by kernel_rfl)) (mz (m6 (by kernel_rfl)) (mz (m6 (by kernel_rfl)) (mz (m6 (by kernel_rfl)) mI)))) (by exact (my (.i (.e xA xL) (.l xK xA)) [_]) hz)) (OH hu (λx hx=>(by decide: ∀x∈([[],[],[],[]]:List (List Nat)),∀c∈x,c<256) x hx))
end
abbrev LF:=List Nat
noncomputable def tV:LF->LF->LF
 |[],g=>g
 |a::f,[]=>a::f
 |a::f,b::g=>(a+b)::tV f g
noncomputable def H2 (k:Nat) (f:LF):LF:=f.map (k* ·)
noncomputable def Bx (k:Nat):LF:=aG k 0++[1]
noncomputable def ev (xs:List Int):LF->Int
 |[]=>0
 |c::f=>match xs with
  |[]=>0
  |x::xs=>(c:Int)*x+ev xs f
theorem rt (xs:List Int):ev xs []=0:=by unfold ev;rfl
theorem ev_add: ∀(xs:List Int) (f g:LF),ev xs (tV f g)=ev xs f+ev xs g
 |xs,[],g=>by rw [tV,rt];exact my (.E xA (.a xJ xA)) [] [_]
 |xs,a::f,[]=>by rw [tV,rt];exact my (.E xA (.a xA xJ)) [] [_]
 |[],a::f,b::g=>by rw [tV,ev,ev,ev];rfl
 |x::xs,a::f,b::g=>by
  rw [tV,ev,ev,ev]
  rw [ev_add xs f g,fX,Int.add_mul]
  exact my (.E (.a (.a xA xB) (.a xC xD)) (.a (.a xA xC) (.a xB xD))) [] [_,_,_,_]
theorem ev_mul (k:Nat): ∀(xs:List Int) (f:LF),ev xs (H2 k f)=(k:Int)*ev xs f
 |xs,[]=>by show ev xs []=_*ev xs [];rw [rt,gi]
 |[],a::f=>by show (0:Int)=(k:Int)*0;rw [gi]
 |x::xs,a::f=>by
  have ih:=ev_mul k xs f
  show ((k*a:Nat):Int)*x+ev xs (H2 k f)=(k:Int)*((a:Int)*x+ev xs f)
  rw [ih,Int.natCast_mul,fV,fQ]
theorem Gx: ∀(k:Nat) (xs:List Int),ev xs (Bx k)=xs[k]?.getD 0
 |0,[]=>rfl
 |0,x::xs=>by show (1:Int)*x+ev xs []=x;rw [rt];exact my (.E (.a (.m 1 xA) xJ) xA) [] [_]
 |k+1,[]=>by rfl
 |k+1,x::xs=>by
  have ih:=Gx k xs
  show (0:Int)*x+ev xs (Bx k)=_
  rw [ih];simp
noncomputable def CI:LF->LF->Bool
 |[],g=>g.all λb=>b % 128==0
 |a::f,[]=>a % 128==0&&CI f []
 |a::f,b::g=>a % 128==b % 128&&CI f g
theorem GJ: ∀(g:LF) (xs:List Int),(g.all λb=>b % 128==0)=ai->(128:Int)∣ev xs g
 |[],xs,_=>by rw [rt];exact ⟨0,rfl⟩
 |b::g,[],_=>by rw [ev];exact ⟨0,rfl⟩
 |b::g,x::xs,h=>by
  rw [iL,bI,beq_iff_eq] at h
  obtain ⟨u,hu⟩:=GJ g xs h.2
  show 128∣(b:Int)*x+ev xs g
  refine ⟨((b/128:Nat):Int)*x+u,?_⟩
  have e:(b:Int)=128*((b/128:Nat):Int):=by exact (my (.i (.e (.e xA 128) xJ) (.E (.k xA) (.m 128 (.k (.d xA 128))))) [_]) h.1
  rw [e,fQ,fV];exact (my (.i (.E xB (.m 128 xC)) (.E (.a (.m 128 xA) xB) (.a (.m 128 xA) (.m 128 xC)))) [] [_,_,_]) hu
theorem CE: ∀(f g:LF) (xs:List Int),CI f g=ai->(128:Int)∣ev xs f - ev xs g
 |[],g,xs,h=>by
  obtain ⟨u,hu⟩:=GJ g xs h
  rw [rt,hu]
  exact ⟨-u,by rw [Int.mul_neg];exact my (.E (.s xJ (.m 128 xA)) (.g (.m 128 xA))) [] [_]⟩
 |a::f,[],[],_=>by rw [ev,ev];exact ⟨0,rfl⟩
 |a::f,[],x::xs,h=>by
  rw [CI,bI,beq_iff_eq] at h
  refine eE (CE f [] xs h.2) λu hu=> ?_
  rw [rt] at hu
  rw [rt]
  show 128∣(a:Int)*x+ev xs f - 0
  refine ⟨((a/128:Nat):Int)*x+u,?_⟩
  have e:(a:Int)=128*((a/128:Nat):Int):=by exact (my (.i (.e (.e xA 128) xJ) (.E (.k xA) (.m 128 (.k (.d xA 128))))) [_]) h.1
  rw [e,fQ,fV];exact (my (.i (.E (.s xB xJ) (.m 128 xC)) (.E (.s (.a (.m 128 xA) xB) xJ) (.a (.m 128 xA) (.m 128 xC)))) [] [_,_,_]) hu
 |a::f,b::g,[],_=>by rw [ev,ev];exact ⟨0,rfl⟩
 |a::f,b::g,x::xs,h=>by
  rw [CI,bI,beq_iff_eq] at h
  refine eE (CE f g xs h.2) λu hu=> ?_
  refine ⟨(((a/128:Nat):Int) - ((b/128:Nat):Int))*x+u,?_⟩
  have e:(a:Int) - b=128*(((a/128:Nat):Int) - ((b/128:Nat):Int)):=by have:=h.1;exact (my (.i (.e (.e xA 128) (.e xB 128)) (.E (.s (.k xA) (.k xB)) (.m 128 (.s (.k (.d xA 128)) (.k (.d xB 128)))))) [_,_]) h.1
  have e2:(a:Int)*x - (b:Int)*x=128*((((a/128:Nat):Int) - ((b/128:Nat):Int))*x):=by rw [<-Int.sub_mul,e,fQ]
  rw [fV];exact (my (.i (.E (.s xB xD) (.m 128 xF)) (.i (.E (.s xA xC) (.m 128 xE)) (.E (.s (.a xA xB) (.a xC xD)) (.a (.m 128 xE) (.m 128 xF))))) [] [_,_,_,_,_,_]) hu e2
def pK (xs:List Int) (f:LF):Nat:=((ev xs f).fmod 128).toNat
theorem uI (xs:List Int) (f:LF):((pK xs f:Nat):Int)=(ev xs f).fmod 128:=by
 have:=qO (a:=ev xs f) (m:=128) (by decide)
 exact (my (.i (.L xJ xA) (.E (.k (.t xA)) xA)) [] [_]) this.1
theorem PM (xs:List Int) (f:LF):pK xs f<128:=by
 have:=qO (a:=ev xs f) (m:=128) (by decide)
 exact (my (.i (.B xA xR) (.b (.t xA) xR)) [] [_]) this.2
theorem JK (a:Int):a.fmod 128=a % 128:=bM _ (by decide)
theorem Od (xs:List Int) (f g:LF):(pK xs f+pK xs g) % 128=pK xs (tV f g):=by
 have h1:=uI xs f
 have h2:=uI xs g
 have h3:=uI xs (tV f g)
 rw [JK] at h1 h2 h3
 rw [ev_add] at h3
 exact (my (.i (.E (.k xA) (.e xA 128)) (.i (.E (.k xB) (.e xB 128)) (.i (.E (.k xC) (.e (.a xA xB) 128)) (.e (.e (.a xA xB) 128) xC)))) [_,_,_] [_,_]) h1 h2 h3
theorem QG (h:CI f g=ai):pK xs f=pK xs g:=by
 have h1:=uI xs f
 have h2:=uI xs g
 rw [JK] at h1 h2
 obtain ⟨u,hu⟩:=CE f g xs h
 exact (my (.i (.E (.k xA) (.e xA 128)) (.i (.E (.k xB) (.e xB 128)) (.i (.E (.s xA xB) (.m 128 xC)) (.e xA xB)))) [_,_] [_,_,_]) h1 h2 hu
theorem OK (xs:List Int):pK xs []=0:=by unfold pK;rw [rt];rfl
noncomputable def IR:LF->List LF->List LF
 |_,[]=>[]
 |a,x::t=>tV x a::IR (tV x a) t
noncomputable def MQ:LF->List LF->LF
 |a,[]=>a
 |a,x::t=>MQ (tV x a) t
noncomputable def zR:Nat->List (List Nat)->List (List Nat)
 |_,[]=>[]
 |a,r::t=>oB a r.dropLast::zR (pL a r.dropLast) t
noncomputable def Io:LF->List (List LF)->List (List LF)
 |_,[]=>[]
 |a,r::t=>IR a r.dropLast::Io (MQ a r.dropLast) t
theorem Hd (xs:List Int): ∀(r:List LF) (a:LF),oB (pK xs a) (r.map (pK xs))=(IR a r).map (pK xs)/\pL (pK xs a) (r.map (pK xs))=pK xs (MQ a r)
 |[],a=>⟨rfl,rfl⟩
 |x::t,a=>by
  have ih:=Hd xs t (tV x a)
  show ((pK xs x+pK xs a) % 128::oB ((pK xs x+pK xs a) % 128) (t.map (pK xs))=_)/\pL ((pK xs x+pK xs a) % 128) (t.map (pK xs))=_
  rw [Od,ih.1,ih.2]
  exact ⟨rfl,rfl⟩
theorem G5 (xs:List Int): ∀(rows:List (List LF)) (a:LF),zR (pK xs a) (rows.map λr=>r.map (pK xs))=(Io a rows).map λr=>r.map (pK xs)
 |[],_=>rfl
 |r::t,a=>by
  have e:(r.map (pK xs)).dropLast=r.dropLast.map (pK xs):=by rw [ms]
  have h:=Hd xs r.dropLast a
  show oB (pK xs a) (r.map (pK xs)).dropLast::zR (pL (pK xs a) (r.map (pK xs)).dropLast) _=_
  rw [e,h.1,h.2,G5 xs t]
  rfl
noncomputable def Br (rows:List (List Nat)):Nat->List (List Nat)
 |0=>rows
 |i+1=>zR 0 (Br rows i)
noncomputable def uq (rows:List (List LF)):Nat->List (List LF)
 |0=>rows
 |i+1=>Io [] (uq rows i)
theorem Ho (xs:List Int) (rows:List (List LF)): ∀i,Br (rows.map λr=>r.map (pK xs)) i=(uq rows i).map λr=>r.map (pK xs)
 |0=>rfl
 |i+1=>by
  show zR 0 (Br _ i)=_
  rw [Ho xs rows i]
  have:=G5 xs (uq rows i) []
  rw [OK] at this
  exact this
def M3 (sh:Nat) (s:List LF):List LF:=(dF (s++[[]]) ([]::s)).map λq=>tV q.1 (H2 sh q.2)
def B8 (x:LF) (U5:List Nat):List LF:=U5.foldl (λs sh=>M3 sh s) [x]
def DS (t s:List LF):List LF:=(dF t s).map λq=>tV q.1 q.2
noncomputable def zt (ls:List Nat) (last n k:Nat):List Nat:=(ag k).foldl (λt i=>t++aG (ls[n+1+i]?.getD 0 - ls[n+i]?.getD 0) (last - (n+1+i)+1)) []
def No (ls:List Nat) (last n i:Nat):List Nat:=aG i (last - n)++aG (ls[n]?.getD 0 - 2 - i) (last - n+1)++zt ls last n (last - n)
def vI (rows:List (List LF)) (last n k:Nat) (U0:List LF):List LF:=(ag k).foldl (λt i=>DS t (B8 ((rows[n]?.getD [])[i]?.getD []) (No (rows.map bj) last n i))) U0
def Fz (rows:List (List LF)) (last k:Nat):List LF:=(ag k).foldl (λt n=>vI rows last n ((rows[n]?.getD []).length - 1) t) (aG ((rows[last]?.getD []).length - 1) [])
def DM (rows:List (List LF)):List LF:=(rows[rows.length - 1]?.getD []).getLast?.getD []::Fz rows (rows.length - 1) rows.length
section
variable (xs:List Int)
theorem QS (sh:Nat) (s:List LF):(M3 sh s).map (ev xs)=uc (sh:Int) (s.map (ev xs)):=by
 unfold M3 uc
 have e1:s.map (ev xs)++[0]=(s++[[]]).map (ev xs):=by rw [bi,eZ,rt]
 have e2:(0::s.map (ev xs))=(([]:LF)::s).map (ev xs):=by rw [ba,rt]
 rw [e1,e2,List.zip_map,aB,aB]
 refine aV λq z=> ?_
 show ev xs (tV q.1 (H2 sh q.2))=ev xs q.1+(sh:Int)*ev xs q.2
 rw [ev_add,ev_mul]
theorem Fk: ∀(U5:List Nat) (s:List LF),(U5.foldl (λs sh=>M3 sh s) s).map (ev xs)=(U5.map λk:Nat=>(k:Int)).foldl (λs sh=>uc sh s) (s.map (ev xs))
 |[],_=>rfl
 |sh::U5,s=>by
  rw [eY,ba,eY,Fk U5,QS]
theorem Og (t s:List LF):(DS t s).map (ev xs)=AX (t.map (ev xs)) (s.map (ev xs)):=by
 unfold DS AX
 rw [List.zip_map,aB,aB]
 refine aV λq z=> ?_
 exact ev_add xs q.1 q.2
def ub (rows:List (List LF)):List IL:=rows.map λr=>r.map (ev xs)
theorem wc (rows:List (List LF)) (n:Nat):m8 (ub xs rows) n=(rows[n]?.getD []).map (ev xs):=by
 unfold m8 ub
 rw [a7]
 cases rows[n]? <;>rfl
theorem zg (rows:List (List LF)) (n:Nat):(m8 (ub xs rows) n).length=(rows.map bj)[n]?.getD 0:=by
 rw [wc,ah,a7]
 cases rows[n]? <;>rfl
theorem EO (rows:List (List LF)) (last n:Nat): ∀k,n+k<=last->(zt (rows.map bj) last n k).map (λk:Nat=>(k:Int))=qm (ub xs rows) last n k
 |0,_=>rfl
 |k+1,h=>by
  have ih:=EO rows last n k (by exact (my (.i (.l (.a xA (.a xB xI)) xC) (.l (.a xA xB) xC)) [_,_,_]) h)
  rw [uN,<-ih]
  have e:zt (rows.map bj) last n (k+1)=zt (rows.map bj) last n k++aG ((rows.map bj)[n+1+k]?.getD 0 - (rows.map bj)[n+k]?.getD 0) (last - (n+1+k)+1):=by
   unfold zt;rw [cy,dc];rfl
  rw [e,bi,fa,zg,zg]
  congr 2
  exact (my (.i (.l (.a xB (.a xC xI)) xA) (.E (.k (.a (.s xA (.a (.a xB xI) xC)) xI)) (.a (.s (.k xA) (.k (.a (.a xB xI) xC))) xI))) [_,_,_]) h
theorem Kj (rows:List (List LF)) (i:Nat) (h:n<=last):(No (rows.map bj) last n i).map (λk:Nat=>(k:Int))=tq (ub xs rows) last n i:=by
 unfold No tq
 rw [bi,bi,fa,fa,EO xs rows last n (last - n) (by exact (my (.i (.l xA xB) (.l (.a xA (.s xB xA)) xB)) [_,_]) h),zg]
 congr 3
 ·congr 1;exact (my (.i (.l xB xA) (.E (.k (.s xA xB)) (.s (.k xA) (.k xB)))) [_,_]) h
 ·exact (my (.i (.l xB xA) (.E (.k (.a (.s xA xB) xI)) (.a (.s (.k xA) (.k xB)) xI))) [_,_]) h
theorem Ds (rows:List (List LF)) (h:n<=last) (U0:List LF): ∀k,(vI rows last n k U0).map (ev xs)=rY (ub xs rows) last n k (U0.map (ev xs))
 |0=>rfl
 |k+1=>by
  have ih:=Ds rows h U0 k
  rw [w1,<-ih]
  have e:vI rows last n (k+1) U0=DS (vI rows last n k U0) (B8 ((rows[n]?.getD [])[k]?.getD []) (No (rows.map bj) last n k)):=by
   unfold vI;rw [cy,dc];rfl
  rw [e,Og]
  congr 1
  unfold B8 qH
  rw [Fk,Kj xs rows k h]
  congr 1
  rw [wc,a7]
  cases (rows[n]?.getD [])[k]? with
  |none=>show [ev xs []]=[0];rw [rt]
  |some f=>rfl
theorem Ku (rows:List (List LF)) (last:Nat): ∀k,k<=last+1->(Fz rows last k).map (ev xs)=rK (ub xs rows) last k
 |0,_=>by
  show (aG _ []).map (ev xs)=aG _ 0
  rw [fa,rt,wc,ah]
 |k+1,h=>by
  have ih:=Ku rows last k (by exact (my (.i (.l (.a xA xI) (.a xB xI)) (.l xA (.a xB xI))) [_,_]) h)
  rw [y9,<-ih]
  have e:Fz rows last (k+1)=vI rows last k ((rows[k]?.getD []).length - 1) (Fz rows last k):=by
   unfold Fz;rw [cy,dc];rfl
  rw [e,Ds xs rows (by exact (my (.i (.l (.a xA xI) (.a xB xI)) (.l xA xB)) [_,_]) h),wc,ah]
theorem NY (rows:List (List LF)) (h:rows≠[]):zG (ub xs rows)=(DM rows).map λf=>(ev xs f).fmod 128:=by
 have hl:(ub xs rows).length=rows.length:=ah ..
 have hp:0<rows.length:=dP.mpr h
 unfold zG DM
 rw [hl,<-Ku xs rows (rows.length - 1) rows.length (by exact my (.l xA (.a (.s xA xI) xI)) [_]),wc,gA]
 rw [ba,ba,aB]
 congr 1
 cases (rows[rows.length - 1]?.getD []).getLast? with
 |none=>show Int.fmod 0 128=_;show _=Int.fmod (ev xs []) 128;rw [rt]
 |some f=>rfl
end
def rW (s:List Nat):List (List LF):=(ag 4).map λn=>(ag (s[n]?.getD 0)).map λj=>Bx (5*n+j)
def Sx (s:List Nat) (n:Nat) (T:List LF):Bool:=T.length==s[n]?.getD 0&&(ag 5).all λi=> !(decide (i<s[n]?.getD 0))||CI (((uq (rW s) i)[n]?.getD []).getLast?.getD []) (T[i]?.getD [])
def TZ (s:List Nat):Bool:=(ag 6).all λi=>(uq (rW s) i).map bj==(ag 4).map λn=>s[n]?.getD 0 - i
def SA (s:List Nat):Bool:=TZ s&&(ag 4).all λn=>Sx s n (DM ((rW s).take (n+1)))
def R2:Bool:=(ag 5).all λa=>(ag 5).all λb=>(ag 5).all λc=>(ag 5).all λd=> !(decide (a<=b)&&decide (b<=c)&&decide (c<=d))||SA [a+1,b+1,c+1,d+1]
theorem LL:R2=ai:=by decide+kernel
structure pf (sz:Nat->Nat) (rs:Nat->List Nat):Prop where
 s0:1<=sz 0
 s1:sz 0<=sz 1
 s2:sz 1<=sz 2
 s3:sz 2<=sz 3
 s4:sz 3<=5
 len: ∀n<4,(rs n).length=sz n
 lt: ∀n<4,∀x∈rs n,x<128
section
variable {sz:Nat->Nat} {rs:Nat->List Nat}
noncomputable def yA (sz:Nat->Nat):List Nat:=[sz 0,sz 1,sz 2,sz 3]
theorem zy (sz:Nat->Nat) (h:n<4):(yA sz)[n]?.getD 0=sz n:=by
 match n,h with
 |0,_=>rfl
 |1,_=>rfl
 |2,_=>rfl
 |3,_=>rfl
theorem Jp (R:pf sz rs):SA (yA sz)=ai:=by
 have h:=LL
 have h0:=bq.mp h (sz 0 - 1) (aL.mpr (by have:=R.s1;have:=R.s2;have:=R.s3;have:=R.s4;exact (my (.i (.l xA xB) (.i (.l xB xC) (.i (.l xC xD) (.i (.l xD xN) (.b (.s xA xI) xN))))) [_,_,_,_]) (by assumption) (by assumption) (by assumption) this))
 have h1:=bq.mp h0 (sz 1 - 1) (aL.mpr (by have:=R.s2;have:=R.s3;have:=R.s4;exact (my (.i (.l xA xB) (.i (.l xB xC) (.i (.l xC xN) (.b (.s xA xI) xN)))) [_,_,_]) (by assumption) (by assumption) this))
 have h2:=bq.mp h1 (sz 2 - 1) (aL.mpr (by have:=R.s3;have:=R.s4;exact (my (.i (.l xA xB) (.i (.l xB xN) (.b (.s xA xI) xN))) [_,_]) (by assumption) this))
 have h3:=bq.mp h2 (sz 3 - 1) (aL.mpr (by have:=R.s4;exact (my (.i (.l xA xN) (.b (.s xA xI) xN)) [_]) this))
 have e:(!(decide (sz 0 - 1<=sz 1 - 1)&&decide (sz 1 - 1<=sz 2 - 1)&&decide (sz 2 - 1<=sz 3 - 1)))=false:=by
  rw [decide_eq_true (by have:=R.s1;exact (my (.i (.l xA xB) (.l (.s xA xI) (.s xB xI))) [_,_]) this),decide_eq_true (by have:=R.s2;exact (my (.i (.l xA xB) (.l (.s xA xI) (.s xB xI))) [_,_]) this),decide_eq_true (by have:=R.s3;exact (my (.i (.l xA xB) (.l (.s xA xI) (.s xB xI))) [_,_]) this)];rfl
 rw [e,Bool.false_or] at h3
 have b0:=R.s0
 have b1:=R.s1
 have b2:=R.s2
 have b3:=R.s3
 rw [show sz 0 - 1+1=sz 0 by exact (my (.i (.l xI xA) (.e (.a (.s xA xI) xI) xA)) [_]) b0,show sz 1 - 1+1=sz 1 by exact (my (.i (.l xI xB) (.i (.l xB xA) (.e (.a (.s xA xI) xI) xA))) [_,_]) b0 b1,show sz 2 - 1+1=sz 2 by exact (my (.i (.l xI xB) (.i (.l xB xC) (.i (.l xC xA) (.e (.a (.s xA xI) xI) xA)))) [_,_,_]) b0 b1 b2,show sz 3 - 1+1=sz 3 by exact (my (.i (.l xI xB) (.i (.l xB xC) (.i (.l xC xD) (.i (.l xD xA) (.e (.a (.s xA xI) xI) xA))))) [_,_,_,_]) b0 b1 b2 b3] at h3
 exact h3
noncomputable def vV (rs:Nat->List Nat):List Int:=(ag 20).map λk=>(((rs (k/5))[k % 5]?.getD 0:Nat):Int)
theorem ev_at (R:pf sz rs) (hn:n<4) (hj:j<5):ev (vV rs) (Bx (5*n+j))=(((rs n)[j]?.getD 0:Nat):Int):=by
 rw [Gx]
 unfold vV
 rw [oS (by exact (my (.i (.b xA xK) (.i (.b xB xN) (.b (.a (.m 5 xA) xB) (.c 20)))) [_,_]) hn hj),show (5*n+j)/5=n by exact (my (.i (.b xB xN) (.e (.d (.a (.m 5 xA) xB) 5) xA)) [_,_]) hj,show (5*n+j) % 5=j by exact (my (.i (.b xB xN) (.e (.e (.a (.m 5 xA) xB) 5) xB)) [_,_]) hj]
 rfl
theorem tS (R:pf sz rs) (hn:n<4):1<=sz n/\sz n<=sz 3/\sz n<=5:=by
 have b0:=R.s0
 have b1:=R.s1
 have b2:=R.s2
 have b3:=R.s3
 have b4:=R.s4
 match n,hn with
 |0,_=>exact (my (.i (.l xI xA) (.i (.l xA xC) (.i (.l xC xD) (.i (.l xD xB) (.i (.l xB xN) (.a (.l xI xA) (.a (.l xA xB) (.l xA xN)))))))) [_,_,_,_]) b0 b1 b2 b3 b4
 |1,_=>exact (my (.i (.l xI xC) (.i (.l xC xA) (.i (.l xA xD) (.i (.l xD xB) (.i (.l xB xN) (.a (.l xI xA) (.a (.l xA xB) (.l xA xN)))))))) [_,_,_,_]) b0 b1 b2 b3 b4
 |2,_=>exact (my (.i (.l xI xC) (.i (.l xC xD) (.i (.l xD xA) (.i (.l xA xB) (.i (.l xB xN) (.a (.l xI xA) (.a (.l xA xB) (.l xA xN)))))))) [_,_,_,_]) b0 b1 b2 b3 b4
 |3,_=>exact (my (.i (.l xI xB) (.i (.l xB xC) (.i (.l xC xD) (.i (.l xD xA) (.i (.l xA xN) (.a (.l xI xA) (.a (.l xA xA) (.l xA xN)))))))) [_,_,_,_]) b0 b1 b2 b3 b4
theorem QC (R:pf sz rs) (hn:n<4) (hj:j<sz n):pK (vV rs) (Bx (5*n+j))=(rs n)[j]?.getD 0:=by
 have h5:=(tS R hn).2.2
 have Ue:=R.len n hn
 unfold pK
 rw [ev_at R hn (by exact (my (.i (.b xA xB) (.i (.l xB xN) (.b xA xN))) [_,_]) hj h5)]
 have V9:(rs n)[j]? =aa ((rs n)[j]'(by exact (my (.i (.b xA xC) (.i (.e xB xC) (.b xA xB))) [_,_,_]) hj Ue)):=aA (by exact (my (.i (.b xA xC) (.i (.e xB xC) (.b xA xB))) [_,_,_]) hj Ue)
 have Un:=R.lt n hn ((rs n)[j]'(by exact (my (.i (.b xA xC) (.i (.e xB xC) (.b xA xB))) [_,_,_]) hj Ue)) (dn (by exact (my (.i (.b xA xC) (.i (.e xB xC) (.b xA xB))) [_,_,_]) hj Ue))
 rw [V9]
 rw [bM _ (by decide)];exact (my (.i (.b xA xR) (.e (.t (.e (.k xA) 128)) xA)) [_]) Un
theorem G9 {f:Nat->Nat} (hl:l.length=k) (h: ∀j<k,f j=l[j]?.getD 0):(ag k).map f=l:=by
 refine gO (by rw [ah,be,hl]) λi h1 h2=> ?_
 rw [gN,cU,h i (by exact (my (.i (.e xC xB) (.i (.b xA xC) (.b xA xB))) [_,_,_]) hl h2),aA h2];rfl
theorem Jk (R:pf sz rs):((rW (yA sz)).map λr=>r.map (pK (vV rs)))=(ag 4).map rs:=by
 unfold rW
 rw [aB]
 refine aV λn hn=> ?_
 have hn:=aL.mp hn
 show eV _ (eV _ _)=_
 rw [aB,zy sz hn]
 exact G9 (R.len n hn) λj hj=>QC R hn hj
theorem LH (R:pf sz rs) (hn:n<4):ub (vV rs) ((rW (yA sz)).take (n+1))=sR rs (n+1):=by
 unfold ub rW sR
 rw [<-iK,List.take_range,fW (by exact (my (.i (.b xA xK) (.l (.a xA xI) xK)) [_]) hn),aB]
 refine aV λk hk=> ?_
 have hk:=aL.mp hk
 have hk4:k<4:=by exact (my (.i (.b xB xK) (.i (.b xA (.a xB xI)) (.b xA xK))) [_,_]) hn hk
 show eV _ (eV _ _)=_
 rw [aB,zy sz hk4]
 have h5:=(tS R hk4).2.2
 have e:(ag (sz k)).map (λj=>(rs k)[j]?.getD 0)=rs k:=G9 (R.len k hk4) λj z=>rfl
 conv=>rhs;rw [<-e]
 rw [aB]
 refine aV λj hj=> ?_
 have hj:=aL.mp hj
 exact ev_at R hk4 (by exact (my (.i (.l xB xN) (.i (.b xA xB) (.b xA xN))) [_,_]) h5 hj)
def TF (sz:Nat->Nat) (n:Nat):List LF:=DM ((rW (yA sz)).take (n+1))
def wM (sz:Nat->Nat) (rs:Nat->List Nat) (n h:Nat):Nat:=pK (vV rs) ((TF sz n)[h]?.getD [])
theorem Fu (R:pf sz rs) (hn:n<4):(TF sz n).length=sz n/\ ∀i<sz n,CI (((uq (rW (yA sz)) i)[n]?.getD []).getLast?.getD []) ((TF sz n)[i]?.getD [])=ai:=by
 have h:=Jp R
 have h2:=bq.mp ((aP.mp h).2) n (aL.mpr hn)
 unfold Sx at h2
 rw [zy sz hn] at h2
 refine eA (aP.mp h2) λh3 h4=> ?_
 refine ⟨gC h3,λi hi=> ?_⟩
 have h5:=(tS R hn).2.2
 have h6:=bq.mp h4 i (aL.mpr (by exact (my (.i (.b xA xB) (.i (.l xB xN) (.b xA xN))) [_,_]) hi h5))
 rw [decide_eq_true hi] at h6
 exact h6
theorem GB (R:pf sz rs) (hi:i<6):(uq (rW (yA sz)) i).map bj=(ag 4).map λn=>sz n - i:=by
 have h:=Jp R
 have h2:=gC (bq.mp ((aP.mp h).1) i (aL.mpr hi))
 rw [h2]
 refine aV λn hn=> ?_
 rw [zy sz (aL.mp hn)]
end
section
variable {sz dt lt:Nat->Nat} {rs:Nat->List Nat}
theorem Dp {α β:Type} (g:α->β) (d:α) {l:List α} (h:l.length=k):((ag k).map λi=>g (l[i]?.getD d))=l.map g:=by
 refine gO (by rw [ah,be,ah,h]) λi h1 h2=> ?_
 rw [ah] at h2
 rw [gN,cU,gN,aA h2];rfl
theorem Hf (R:pf sz rs) (hn:n<4):sC rs n=(yB sz (wM sz rs) n).map λx:Nat=>(x:Int):=by
 have Uk:(rW (yA sz)).take (n+1)≠[]:=by
  intro q
  have:=congrArg bj q
  unfold rW at this
  rw [dm,ah,be] at this
  have e:([]:List (List LF)).length=0:=rfl
  exact (my (.i (.e (.n (.a xA xI) xK) xB) (.n (.e xB xJ))) [_,_]) this e
 unfold sC
 rw [<-LH R hn,NY _ _ Uk]
 show (TF sz n).map _=_
 unfold yB wM
 rw [aB,<-Dp (λf=>(ev (vV rs) f).fmod 128) [] (Fu R hn).1]
 refine aV λh z=> ?_
 show (ev (vV rs) ((TF sz n)[h]?.getD [])).fmod 128=((pK _ _:Nat):Int)
 rw [uI]
theorem I0 (n h:Nat):wM sz rs n h<128:=PM _ _
theorem Mi (R:pf sz rs) (hn:n<4) (hh:h<sz n):(sC rs n)[h]? =aa ((wM sz rs n h:Nat):Int):=by
 rw [Hf R hn,a7]
 unfold yB
 rw [oS hh];rfl
def VN (sz:Nat->Nat) (rs:Nat->List Nat) (i n:Nat):List Nat:=((uq (rW (yA sz)) i)[n]?.getD []).map (pK (vV rs))
theorem EK (R:pf sz rs) (hi:i<6):(uq (rW (yA sz)) i).length=4:=by
 have:=congrArg bj (GB R hi)
 rw [ah,ah,be] at this;exact this
theorem OD (R:pf sz rs) (hi:i<6):Br ((ag 4).map rs) i=(ag 4).map (VN sz rs i):=by
 rw [<-Jk R,Ho]
 rw [<-Dp (λr=>r.map (pK (vV rs))) [] (EK R hi)]
 rfl
theorem MX (R:pf sz rs) (hi:i<6) (hn:n<4):(VN sz rs i n).length=sz n - i:=by
 unfold VN
 rw [ah]
 have h:((uq (rW (yA sz)) i).map bj)[n]?.getD 0=((ag 4).map λn=>sz n - i)[n]?.getD 0:=by rw [GB R hi]
 rw [oS hn,a7] at h
 have hl:=EK R hi
 rw [aA (by exact (my (.i (.b xA xK) (.i (.e xB xK) (.b xA xB))) [_,_]) hn hl)] at h ⊢
 exact h
theorem Qb (R:pf sz rs) (hn:n<4) (hi:i<sz n):(VN sz rs i n).getLast?.getD 0=wM sz rs n i:=by
 have h5:=(tS R hn).2.2
 have hl:=MX R (i:=i) (by exact (my (.i (.b xA xB) (.i (.l xB xN) (.b xA (.c 6)))) [_,_]) hi h5) hn
 have he:=QG (xs:=vV rs) ((Fu R hn).2 i hi)
 unfold wM
 rw [<-he]
 unfold VN at hl ⊢
 rw [ah] at hl
 rw [gA]
 cases hg:((uq (rW (yA sz)) i)[n]?.getD []).getLast? with
 |none=>rw [j0] at hg;rw [hg] at hl;have e:([]:List LF).length=0:=rfl;exact (my (.i (.b xC xD) (.i (.e xE (.s xD xC)) (.i (.e xE xJ) (.e xA xB)))) [_,_,_,_,_]) hi hl e
 |some f=>rfl
def uk (dt lt:Nat->Nat) (i:Nat) (q:Nat×List Nat):En:=(kk dt i q.1,lt q.1,q.2)
noncomputable def u9 (e:En):Bool:= !e.2.2.isEmpty
noncomputable def xU:Nat->List En->List En
 |_,[]=>[]
 |a,(k,c,r)::t=>(k,c,oB a r.dropLast)::xU (pL a r.dropLast) t
theorem KY (k c a:Nat) (r:List Nat):u9 (k,c,oB a r)= !r.isEmpty:=by
 cases r<;>rfl
theorem wu: ∀(es:List En) (a:Nat),oY a (es.filter u9)=(xU a es).filter u9
 |[],_=>rfl
 |(k,c,r)::t,a=>by
  cases r with
  |nil=>
   have e1:((k,c,[])::t:List En).filter u9=t.filter u9:=rfl
   have e2:(xU a ((k,c,[])::t)).filter u9=(xU a t).filter u9:=rfl
   rw [e1,e2];exact wu t a
  |cons x r=>
   have e1:((k,c,x::r)::t:List En).filter u9=(k,c,x::r)::t.filter u9:=rfl
   rw [e1]
   show (if (x::r).dropLast=[] then [] else [(k,c,oB a (x::r).dropLast)])++oY (pL a (x::r).dropLast) (t.filter u9)=List.filter u9 ((k,c,oB a (x::r).dropLast)::xU (pL a (x::r).dropLast) t)
   rw [wu t]
   have hs:=KY k c a (x::r).dropLast
   by_cases h:(x::r).dropLast=[]
   ·rw [if_pos h,gS (by rw [hs,h];exact dz)];rfl
   ·rw [if_neg h,gR (by rw [hs];simpa using h)];rfl
theorem Dl (i:Nat): ∀(ns:List Nat) (vs:List (List Nat)) (a:Nat),xU a ((dF ns vs).map (uk dt lt i))=(dF ns (zR a vs)).map (uk dt lt i)
 |[],vs,a=>by rw [mm,mm];rfl
 |n::ns,[],a=>rfl
 |n::ns,v::vs,a=>by
  show (kk dt i n,lt n,oB a v.dropLast)::xU (pL a v.dropLast) ((dF ns vs).map (uk dt lt i))=_
  rw [Dl i ns vs];rfl
theorem J5 (i:Nat) (q:Nat×List Nat):vh (uk dt lt i q)=uk dt lt (i+1) q:=by
 have:(if kk dt i q.1=0 then 0 else kk dt i q.1+1)=kk dt (i+1) q.1:=by
  unfold kk
  by_cases h:dt q.1=0
  ·rw [if_pos h,if_pos h];rfl
  ·rw [if_neg h,if_neg h,if_neg (by exact (my (.i (.n (.e xA xJ)) (.n (.e (.a xA xB) xJ))) [_,_]) h)];exact my (.e (.a (.a xA xB) xI) (.a xA (.a xB xI))) [_,_]
 show ((if kk dt i q.1=0 then 0 else kk dt i q.1+1),lt q.1,q.2)=_
 rw [this];rfl
theorem Hy (e0:List En) (rows:List (List Nat)) (h0:e0=((dF (ag 4) rows).map (uk dt lt 0)).filter u9): ∀i,v8 e0 i=((dF (ag 4) (Br rows i)).map (uk dt lt i)).filter u9
 |0=>h0
 |i+1=>by
  show (oY 0 (v8 e0 i)).map vh=_
  rw [Hy e0 rows h0 i,wu,Dl]
  have hf: ∀l:List En,(l.filter u9).map vh=(l.map vh).filter u9:=by
   intro l
   rw [List.filter_map]
   rfl
  rw [hf,aB]
  congr 1
  exact aV λq z=>J5 i q
end
section
variable {sz dt lt:Nat->Nat} {rs:Nat->List Nat}
noncomputable def wS (dt lt:Nat->Nat) (rs:Nat->List Nat):List En:=(ag 4).map λn=>(dt n,lt n,rs n)
theorem Kt:(wS dt lt rs).map oa=tP dt lt rs:=by
 unfold wS tP
 rw [aB];rfl
theorem Df {β:Type} (f:Nat->β) (l:List Nat):dF l (l.map f)=l.map λn=>(n,f n):=by
 induction l with
 |nil=>rfl
 |cons a l ih=>rw [ba,iU,ih];rfl
theorem F6 {α β:Type} (p:β->Bool) (h:α->β) (l:List α):(l.map h).filter p=l.flatMap λn=>if p (h n)=ai then [h n] else []:=by
 induction l with
 |nil=>rfl
 |cons a l ih=>
  rw [ba,bh,<-ih]
  by_cases hp:p (h a)=ai
  ·rw [if_pos hp,gR hp];rfl
  ·rw [if_neg hp,gS hp];rfl
theorem Mz (R:pf sz rs):wS dt lt rs=((dF (ag 4) ((ag 4).map rs)).map (uk dt lt 0)).filter u9:=by
 rw [Df,aB]
 have e:(ag 4).map (uk dt lt 0∘λn=>(n,rs n))=wS dt lt rs:=by
  refine aV λn z=> ?_
  have:kk dt 0 n=dt n:=by unfold kk;split<;>(first|exact (my (.i (.e xA xJ) (.e xJ xA)) [_]) (by assumption)|exact my (.e (.a xA xJ) xA) [_])
  show (kk dt 0 n,lt n,rs n)=_
  rw [this]
 rw [e]
 symm
 refine bW.mpr λx hx=> ?_
 obtain ⟨n,hn,rfl⟩:=aK.mp hx
 have hn:=aL.mp hn
 have h1:=R.len n hn
 have h2:=(tS R hn).1
 cases hr:rs n with
 |nil=>rw [hr] at h1;have e:([]:List Nat).length=0:=rfl;exact ((my (.i (.e xA xB) (.i (.l xI xB) (.n (.e xA xJ)))) [_,_]) h1 h2 e).elim
 |cons x l=>rfl
theorem Np (R:pf sz rs) (hi:i<6):v8 (wS dt lt rs) i=(ag 4).flatMap λn=>if i<sz n then [uk dt lt i (n,VN sz rs i n)] else []:=by
 rw [Hy _ _ (Mz R) i,OD R hi,Df,aB,F6]
 rw [cn,cn]
 congr 1
 refine aV λn hn=> ?_
 have hn:=aL.mp hn
 have hl:=MX R hi hn
 have e:(u9 ((uk dt lt i∘λn=>(n,VN sz rs i n)) n)=ai)↔i<sz n:=by
  show ((!(VN sz rs i n).isEmpty)=ai)↔_
  cases hv:VN sz rs i n with
  |nil=>rw [hv] at hl;have e:([]:List Nat).length=0:=rfl;simp;exact (my (.i (.e xC (.s xA xB)) (.i (.e xC xJ) (.l xA xB))) [_,_,_]) hl e
  |cons x l=>rw [hv] at hl;rw [aU] at hl;simp;exact (my (.i (.e (.a xC xI) (.s xB xA)) (.b xA xB)) [_,_,_]) hl
 by_cases h:i<sz n
 ·rw [if_pos (e.mpr h),if_pos h];rfl
 ·rw [if_neg (λq=>h (e.mp q)),if_neg h]
theorem Jt (R:pf sz rs) (hi:i<6):(v8 (wS dt lt rs) i).map r7=(ag 4).flatMap (qU sz dt lt (wM sz rs) i):=by
 rw [Np R hi,List.map_flatMap,cn,cn]
 congr 1
 refine aV λn hn=> ?_
 have hn:=aL.mp hn
 unfold qU
 by_cases h:i<sz n
 ·rw [if_pos h,if_pos h,eZ]
  show [(m7 (kk dt i n) (lt n),pq (128+(VN sz rs i n).getLast?.getD 0))]=_
  rw [Qb R hn h];rfl
 ·rw [if_neg h,if_neg h];rfl
theorem Na (R:pf sz rs): ∀i,i<=6->yJ (wS dt lt rs) i=(ag i).flatMap λh=>(ag 4).flatMap (qU sz dt lt (wM sz rs) h)
 |0,_=>rfl
 |i+1,hi=>by
  show yJ _ i++(v8 _ i).map r7=_
  rw [Na R i (by exact (my (.i (.l (.a xA xI) (.c 6)) (.l xA (.c 6))) [_]) hi),Jt R (by exact (my (.i (.l (.a xA xI) (.c 6)) (.b xA (.c 6))) [_]) hi),cy (n:=i),bV,gW]
theorem PB (R:pf sz rs):yJ (wS dt lt rs) (sz 3)=qx sz dt lt (wM sz rs):=by
 have:=R.s4
 rw [Na R _ (by exact (my (.i (.l xA xN) (.l xA (.c 6))) [_]) this),zv]
theorem Qk (R:pf sz rs):v8 (wS dt lt rs) (sz 3)=[]:=by
 have:=R.s4
 rw [Np R (by exact (my (.i (.l xA xN) (.b xA (.c 6))) [_]) this)]
 refine List.flatMap_eq_nil_iff.mpr λn hn=> ?_
 have:=(tS R (aL.mp hn)).2.1
 rw [if_neg (by exact (my (.i (.l xB xA) (.n (.b xA xB))) [_,_]) this)]
theorem PI (R:pf sz rs) (W:uK sz dt lt):zY 0 (wS dt lt rs):=by
 refine ⟨by unfold wS;rw [ah,be];exact my (.l xK xK) [] [],λe he=> ?_,?_⟩
 ·refine mR (aK.mp he) λn hn T1=> ?_;obtain rfl:=T1
  have hn:=aL.mp hn
  have h1:=R.len n hn
  have h2:=tS R hn
  have h3:=W.dots n hn
  refine ⟨by exact (my (.i (.b xA xO) (.l xA (.a xM xJ))) [_]) h3,W.lets n hn,λq=> ?_,by exact (my (.i (.e xA xB) (.i (.l xB xN) (.l (.a xA xJ) xN))) [_,_]) h1 h2.2.2,R.lt n hn⟩
  have q:rs n=[]:=q
  rw [q] at h1
  have e:([]:List Nat).length=0:=rfl
  exact (my (.i (.e xA xB) (.i (.l xI xB) (.n (.e xA xJ)))) [_,_]) h1 h2.1 e
 ·unfold wS
  rw [mo]
  have:(ag 4).Pairwise λa b=>a<4/\b<4/\a≠b:=by
   rw [show ag 4=[0,1,2,3] from rfl]
   decide
  exact this.imp λ⟨ha,hb,Uk⟩ e=>Uk (W.keys _ ha _ hb e)
end
def Bq (ns:List Int):Int:=BQ ns (0,18709805)
def Dh (ns:List Int):List Int:=Be.map (BQ ns)
def wN (ns:List Int):List Int:=FI (Bq ns)
def sQ (ns:List Int) (n:Nat):Nat:=((wN ns)[n]?.getD 0).toNat
def tE (ns:List Int):Nat:=(Bq ns).toNat/625
def rR (ns:List Int) (n:Nat):List Nat:=(wY (Dh ns) (wN ns) n).map Int.toNat
def vQ (ns:List Int) (n:Nat):Nat:=Fp (tE ns:Int) n
def uz (ns:List Int) (n:Nat):Nat:=AN (tE ns:Int) n
theorem GX: ∀l:List Int,(∀x∈l,0<=x)->0<=l.sum
 |[],_=>Int.le_refl _
 |x::l,h=>by
  rw [eb]
  have:=h x (.head _)
  have:=GX l λy hy=>h y (.tail _ hy)
  exact (my (.i (.L xJ xA) (.i (.L xJ xB) (.L xJ (.a xA xB)))) [] [_,_]) (by assumption) this
theorem PW (ns:List Int):0<=Bq ns:=by
 have:0<=((i5 ns (aa ((0:Nat):Int)) (aa 60) (aa 5)).map λx=>x.fmod 1000000000000).sum:=GX _ λy hy=>by
  obtain ⟨x,_,rfl⟩:=aK.mp hy
  exact (qO (by decide)).1
 exact (my (.i (.L xJ xA) (.L xJ (.a (.c 18709805) xA))) [] [_]) this
theorem RW (ns:List Int):(Bq ns).fdiv 625=(tE ns:Int):=by
 have:=PW ns
 rw [bX _ (by decide)];exact (my (.i (.L xJ xA) (.E (.d xA 625) (.k (.d (.t xA) 625)))) [] [_]) this
theorem Lo (ns:List Int):(12:Int)+(tE ns:Int).fmod 6=((12+tE ns % 6:Nat):Int):=by
 rw [bM _ (by decide)];exact my (.E (.a (.c 12) (.e (.k xA) 6)) (.k (.a (.c 12) (.e xA 6)))) [_]
theorem FN (ns:List Int): ∀x∈wN ns,1<=x/\x<=5:=λx hx=>by
 have:=(sortI_perm ((ag 4).map (BN (Bq ns)))).mem_iff.mp hx
 refine mR (aK.mp this) λk z T1=> ?_;obtain rfl:=T1
 have:=qO (a:=(Bq ns).fdiv ((5:Int)^k)) (m:=5) (by decide)
 exact (my (.i (.L xJ xA) (.i (.B xA xN) (.a (.L xI (.a xI xA)) (.L (.a xI xA) xN)))) [] [_]) this.1 this.2
theorem E4 (ns:List Int):(wN ns).length=4:=by
 have:=(sortI_perm ((ag 4).map (BN (Bq ns)))).length_eq
 rw [ah,be] at this;exact this
theorem Oi (ns:List Int): ∃a b c d:Int,wN ns=[a,b,c,d]/\a<=b/\b<=c/\c<=d:=by
 have hl:=E4 ns
 have hr:(wN ns).Pairwise (· <= ·):=sortI_rises _
 refine oU (Cn hl) λa r e h=>vo (vm h) λb c d f=> ?_
 rw [e,f] at hr
 rw [dU,dU,dU] at hr
 exact ⟨a,b,c,d,by rw [e,f],hr.1 b (by simp),hr.2.1 c (by simp),hr.2.2.1 d (by simp)⟩
theorem Gy (ns:List Int):wN ns=(ag 4).map λn=>((sQ ns n:Nat):Int):=by
 refine gO (by rw [E4,ah,be]) λi h1 h2=> ?_
 rw [gN,cU]
 have:=FN ns _ (dn h1)
 unfold sQ
 rw [aA h1]
 exact (eS (Int.le_trans (by decide) this.1)).symm
theorem Fq (v:Int) (i:Nat):0<=w9 v i/\w9 v i<128:=qO (by decide)
theorem Cb (ns:List Int):pf (sQ ns) (rR ns):=by
 refine Ef (Oi ns) λa b c d e h1 h2 h3=> ?_
 have hm:=FN ns
 rw [e] at hm
 have ma:=hm a (by simp)
 have md:=hm d (by simp)
 have e0:sQ ns 0=a.toNat:=by unfold sQ;rw [e];rfl
 have e1:sQ ns 1=b.toNat:=by unfold sQ;rw [e];rfl
 have e2:sQ ns 2=c.toNat:=by unfold sQ;rw [e];rfl
 have e3:sQ ns 3=d.toNat:=by unfold sQ;rw [e];rfl
 refine ⟨by rw [e0];exact fe ma.1,by rw [e0,e1];exact fe h1,by rw [e1,e2];exact fe h2,by rw [e2,e3];exact fe h3,by rw [e3];exact fe md.2,λn z=> ?_,λn z x hx=> ?_⟩
 ·unfold rR wY
  rw [ah,ah,be];rfl
 ·unfold rR wY at hx
  rw [aB] at hx
  obtain ⟨i,_,rfl⟩:=aK.mp hx
  have:=Fq ((Dh ns)[n+1]?.getD 0) i
  exact (my (.i (.B xA xR) (.b (.t xA) xR)) [] [_]) this.2
theorem NP (ns:List Int) (n:Nat):(wY (Dh ns) (wN ns) n).map PV.int=(rR ns n).map λx:Nat=>PV.int x:=by
 unfold rR
 rw [aB]
 refine aV λx hx=> ?_
 refine mR (aK.mp hx) λi z T1=> ?_;obtain rfl:=T1
 have:=Fq ((Dh ns)[n+1]?.getD 0) i
 show PV.int _=PV.int (((w9 _ _).toNat:Nat):Int)
 rw [eS this.1]
theorem Jg (dr:Int): ∀n<4,(AN dr n=97+n\/AN dr n=65+n):=by
 intro n hn
 have h:=qO (a:=(dr.fdiv 54).fdiv ((2:Int)^n)) (m:=2) (by decide)
 have UA: ∀k<2,∀n<4,((um[k]?.getD [])[n]?.getD 97=97+n\/(um[k]?.getD [])[n]?.getD 97=65+n):=by decide
 exact UA _ (by exact (my (.i (.B xA xM) (.b (.t xA) xM)) [] [_]) h.2) n hn
theorem Jf (ns:List Int):uK (sQ ns) (vQ ns) (uz ns):=by
 have R:=Cb ns
 refine ⟨λn hn=> ?_,λn hn m hm e=> ?_,λn hn=> ?_,λn hn=>⟨(tS R hn).1,(tS R hn).2.1⟩,R.s4⟩
 ·have k: ∀n<4,(97+n)∈sO/\(65+n)∈sO:=by decide
  unfold uz
  rcases Jg (tE ns) n hn with h|h
  ·rw [h];exact (k n hn).1
  ·rw [h];exact (k n hn).2
 ·have k: ∀n<4,xX (uz ns n)=97+n:=λn hn=>by
   have k: ∀n<4,xX (97+n)=97+n/\xX (65+n)=97+n:=by decide
   unfold uz
   rcases Jg (tE ns) n hn with h|h
   ·rw [h];exact (k n hn).1
   ·rw [h];exact (k n hn).2
  rw [k n hn,k m hm] at e;exact (my (.i (.e (.a (.c 97) xA) (.a (.c 97) xB)) (.e xA xB)) [_,_]) e
 ·have:=qO (a:=((tE ns:Int).fdiv 864).fdiv ((3:Int)^n)) (m:=3) (by decide)
  exact (my (.i (.B xA xO) (.b (.t xA) xO)) [] [_]) this.2
theorem E2 (dr d:Int):sW (vq dr d):=by
 have h:=qO (a:=dr.fdiv d) (m:=3) (by decide)
 have UA: ∀k<3,(AS[k]?.getD [10])=[10]\/(AS[k]?.getD [10])=[13,10]\/(AS[k]?.getD [10])=[13]:=by decide
 exact UA _ (by exact (my (.i (.B xA xO) (.b (.t xA) xO)) [] [_]) h.2)
theorem Rj (ns:List Int):(PV.list ((ag 4).map λn=>.list ((wY (Dh ns) (wN ns) n).map PV.int)))=uT (rR ns):=by
 congr 1
 exact aV λn z=>by rw [NP]
theorem OF (ns:List Int):(PV.list ((wN ns).map PV.int))=PV.list ((ag 4).map λn=>.int (sQ ns n:Nat)):=by
 rw [Gy ns,aB];rfl
theorem GZ (ns:List Int):(tP (vQ ns) (uz ns) (rR ns)).length=4/\ ∀q∈tP (vQ ns) (uz ns) (rR ns),q.1.length<=3/\q.2.length<=5:=by
 have R:=Cb ns
 have W:=Jf ns
 refine ⟨by unfold tP;rw [ah,be],λq hq=> ?_⟩
 refine mR (aK.mp hq) λn hn T1=> ?_;obtain rfl:=T1
 have hn:=aL.mp hn
 have h1:=W.dots n hn
 have h2:=R.len n hn
 have h3:=(tS R hn).2.2
 constructor
 ·show (m7 _ _).length<=3
  rw [m7,af,a8];exact (my (.i (.b xA xO) (.l (.a xA xI) xO)) [_]) h1
 ·show (mS _).length<=5
  rw [mS,ah];omega
theorem KR (ns:List Int):(oy (tP (vQ ns) (uz ns) (rR ns))).length<=1000:=by
 obtain ⟨h4,hq⟩:=GZ ns
 rw [vH,pM,af]
 have:=vT (f:=λx:List Nat=>x++[13,10]) (k:=12) (l:=(tP (vQ ns) (uz ns) (rR ns)).map λq:List Nat×List Nat=>q.1++58::32::q.2) (λx hx=>by
  refine mR (aK.mp hx) λq hm T1=> ?_;obtain rfl:=T1
  have:=hq q hm
  rw [af,af];exact (my (.i (.l xA xO) (.i (.l xB xN) (.l (.a (.a xA (.a (.a xB xI) xI)) xM) (.c 12)))) [_,_]) this.1 this.2)
 rw [ah,h4] at this
 exact (my (.i (.l xA (.m 12 xK)) (.l (.a xA xM) xQ)) [_]) this
section
variable {w:av} {A:aX} {g:aW} {L:aF}
set_option maxHeartbeats 4000000 in
theorem Pt (G:Gd w 5 (c1 A g L)) (hA:A.frames=aa []) (S2:tg g) (Xv:Bm g) (hT:g.get? 330=aa (ei #[])) {ns:List Int} (hn:ns.length<=63) (hJ: ∀g',mU (hideAll g [330]) g'->(∃ps,g'.get? 330=aa (ei ps))-> ∀fl h,ux g' [] (.bool ai) fl h->J fl h):
  mT mu w (c1 A g L).env (c1 A g L).A (In (c1 A g L) [("script",.list (ns.map PV.int))] [])
   [nj nA 0,nj nA 1,nj nA 2,nj nA 3,nj nA 4,nj nA 5,nj nA 6,nj nA 7,nj nA 8,nj nA 9,nj nA 10,nj nA 11,nj nA 12,nj nA 13,nj nA 14,nj nA 15,nj nA 16,nj nA 17,nj nA 18,nj nA 19,nj nA 20] J:=by
 have R:=Cb ns
 have W:=Jf ns
 have Vv:=aw
 have hz5:=R.s4
 refine MB G hn (by walk_at "lk") ?_
 refine L6 G (cs:=Dh ns) (c0:=Bq ns) rfl (by walk_at "lk") ?_
 refine Oy G (cs:=Dh ns) (sz:=wN ns) rfl (E4 ns) (λx hx=>by have:=FN ns x hx;exact (my (.i (.L xI xA) (.i (.L xA xN) (.a (.L xJ xA) (.L xA xN)))) [] [_]) this.1 this.2) (by walk_at "lk") (by walk_at "lk") ?_
 rw [Rj ns]
 refine NN G (cs:=Dh ns) (c0:=Bq ns) (dr:=(tE ns:Int)) rfl (RW ns) (by walk_at "lk") ?_
 rw [Lo ns]
 refine I3 G (dr:=(tE ns:Int)) (by walk_at "lk") ?_
 refine Of G (dr:=(tE ns:Int)) (by walk_at "lk") ?_
 refine Pd G (dt:=vQ ns) (lt:=uz ns) (rs:=rR ns) W.dots (λn h=>(rA 0 (by decide) _ (W.lets n h)).2.2.2.2.2.2.1) (λn h=>⟨by rw [R.len n h];exact (tS R h).2.2,R.lt n h⟩) (by walk_at "lk") (by walk_at "lk") (by walk_at "lk") ?_
 refine MI (Gd.sub (m:=3) G (by decide)) (λD hD hX=> ?_) (λD=>.inr ⟨L+11,n8.own' (uY rfl (by rfl) (by rfl))⟩)
 have hD330:D≠330:=λq=>by
  have hD:g.get? D=az:=hD
  rw [q,hT] at hD;exact tD hD
 refine eA (GZ ns) λhb4 hbq=> ?_
 refine Kp (l:=tP (vQ ns) (uz ns) (rR ns)) hA (G.addOwn D) Xv hT hD330 (by walk_at "lk") ⟨by exact (my (.i (.e xA xK) (.l xA xP)) [_]) hb4,λq hq=>by have:=hbq q hq;exact (my (.i (.l xA xO) (.i (.l xB xN) (.a (.l xA xP) (.l xB xP)))) [_,_]) this.1 this.2⟩ (KR ns) (by walk_at "lk") λg' hk hK2 GW=> ?_
 refine Iz GW (by walk_at "lk") ?_
 refine sX (J':=J) (J:=ux g' [] (.bool ai)) ?_ (λz h=>h) (hJ g' hk hK2)
 generalize hκ:([("struck",.inst D),("dots",.list ((ag 4).map λn=>.int (vQ ns n:Nat))),("letters",.list ((ag 4).map λn=>.str (S [uz ns n]))),("mark",.str (S (vq (tE ns:Int) 18))),("eol",.str (S (vq (tE ns:Int) 6))),("width",.int ((12+tE ns % 6:Nat):Int)),("dress",.int (tE ns:Int)),("rows",uT (rR ns)),("sizes",.list ((wN ns).map PV.int))]:mX)=κ
 have k1:κ.lookup ("struck":Str)=aa (.inst D):=by subst hκ;walk_at "lk"
 have k2:κ.lookup ("dots":Str)=aa (.list ((ag 4).map λn=>.int (vQ ns n:Nat))):=by subst hκ;walk_at "lk"
 have k3:κ.lookup ("letters":Str)=aa (.list ((ag 4).map λn=>.str (S [uz ns n]))):=by subst hκ;walk_at "lk"
 have k4:κ.lookup ("mark":Str)=aa (.str (S (vq (tE ns:Int) 18))):=by subst hκ;walk_at "lk"
 have k5:κ.lookup ("eol":Str)=aa (.str (S (vq (tE ns:Int) 6))):=by subst hκ;walk_at "lk"
 have k6:κ.lookup ("width":Str)=aa (.int ((12+tE ns % 6:Nat):Int)):=by subst hκ;walk_at "lk"
 have k7:κ.lookup ("dress":Str)=aa (.int (tE ns:Int)):=by subst hκ;walk_at "lk"
 have k8:κ.lookup ("rows":Str)=aa (uT (rR ns)):=by subst hκ;walk_at "lk"
 have k9:κ.lookup ("sizes":Str)=aa (.list ((wN ns).map PV.int)):=by subst hκ;walk_at "lk"
 have kA:Ap κ ("told"::"due"::LN):=by
  subst hκ
  repeat refine Ap.cons ?_ (by decide+kernel)
  exact Ap.nil
 have kN:Ap κ LN:=kA.mono (by decide+kernel)
 refine o7 (σ':=("book",.hdr (hp ((wS (vQ ns) (uz ns) (rR ns)).map oa)))::κ) (by rw [Kt];subst hκ;walk_at "has") ?_
 refine K5 GW ((tg.hide S2).keep hk) (e0:=wS (vQ ns) (uz ns) (rR ns)) (dr:=tE ns) (H:=sQ ns 3) (W:=12+tE ns % 6) (PI R W) hz5 kN k1 k7 (E2 _ _) (E2 _ _) (by exact my (.l (.c 12) (.a (.c 12) (.e xA 6))) [_]) (by exact my (.l (.a (.c 12) (.e xA 6)) xP) [_]) k6 k5 k4 (sz:=wN ns) (by rw [Gy];exact oS (by decide)) k9 ?_
 rw [Qk R,PB R]
 refine Ow GW (rs:=rR ns) (λn h=>by rw [R.len n h];have:=tS R h;omega) (by walk_at "lk") ?_
 have kB:Ap (("told",vC (rR ns))::("book",.hdr (hp (([]:List En).map oa)))::κ) ("due"::LD):=(((kA.mono (xs:="book"::"told"::"due"::LD) (by decide+kernel)).cons (by decide+kernel)).cons (by decide+kernel))
 refine QT GW (κ:=("told",vC (rR ns))::("book",.hdr (hp (([]:List En).map oa)))::κ) (sz:=sQ ns) (dt:=vQ ns) (lt:=uz ns) (rs:=rR ns) (pl:=wM (sQ ns) (rR ns)) (H:=sQ ns 3) hz5 W.dots rfl (λn hn h hh=>⟨Mi R hn hh,I0 _ _⟩) (kB.mono (by decide+kernel)) (by rw [<-OF];clear kB;walk_at "lk") (by walk_at "lk") (by walk_at "lk") (by walk_at "lk") ?_
 have kC:Ap (("due",.list (hp (qx (sQ ns) (vQ ns) (uz ns) (wM (sQ ns) (rR ns)))))::("told",vC (rR ns))::("book",.hdr (hp (([]:List En).map oa)))::κ) LE:=((((kA.mono (xs:="book"::"told"::"due"::LE) (by decide+kernel)).cons (by decide+kernel)).cons (by decide+kernel)).cons (by decide+kernel))
 refine Jw GW (κ:=("due",.list (hp (qx (sQ ns) (vQ ns) (uz ns) (wM (sQ ns) (rR ns)))))::("told",vC (rR ns))::("book",.hdr (hp (([]:List En).map oa)))::κ) (rs:=rR ns) W (λn z h z=>I0 n h) (λn hn=>Hf R hn) (E2 _ _) kC (by walk_at "lk") (by walk_at "lk") (by walk_at "lk") (by walk_at "lk") (by walk_at "lk") (by walk_at "lk") ?_
 refine Mb GW (W:=12+tE ns % 6) (by exact my (.l (.c 12) (.a (.c 12) (.e xA 6))) [_]) (by walk_at "lk") (by walk_at "lk") (by walk_at "lk") ?_
 refine Md GW (Q:=qx (sQ ns) (vQ ns) (uz ns) (wM (sQ ns) (rR ns))) (by have:=Fg (pl:=wM (sQ ns) (rR ns)) W;omega) (E1 W λn z h z=>I0 n h) (.head _) (by walk_at "lk") (by walk_at "lk") ?_
 exact O5 GW (by walk_at "lk") (by walk_at "lk") (by walk_at "lk")
end
section
variable {w:av}
theorem Go:pt 6 callerA:=⟨rfl,by decide+kernel,by decide+kernel⟩
theorem O8:nA=[nj nA 0,nj nA 1,nj nA 2,nj nA 3,nj nA 4,nj nA 5,nj nA 6,nj nA 7,nj nA 8,nj nA 9,nj nA 10,nj nA 11,nj nA 12,nj nA 13,nj nA 14,nj nA 15,nj nA 16,nj nA 17,nj nA 18,nj nA 19,nj nA 20]:=by kernel_rfl
theorem KW {ns:List Int} (B:oi w.params s.heap) (S2:tg s.heap) (Xv:Bm s.heap) (hT:s.heap.get? 330=aa (ei #[])) (hn:ns.length<=63) (r:mP [] s.heap (.list (ns.map PV.int)) v):
  aC (aI mu w) callerA (ft (.ref 333) [v]) (λv' s'=>v'= .bool ai/\nB s s'/\ ∃g',mU (hideAll s.heap [330]) g'/\(∃ps,g'.get? 330=aa (ei ps))/\mU g' s'.heap) (λz z=>False) s:=by
 refine eo (xv (M:=[]) (X:=[]) (ns:=["script"]) (qs:=[.list (ns.map PV.int)]) (Λ:=[]) (B.defAt (RD _)) (by decide+kernel) (λz h=>nomatch h) (λz h=>nomatch h) (λz h=>nomatch h) (yd (ps:=[.list (ns.map PV.int)]) (mK.cons r mK.nil) λvs e=> ?hb) (λz h=>nomatch h) (v6 (by kernel_rfl)) λL T3 k z hL T7=> ?_)
 case hb=>
  refine eE (vi e) λz T1=> ?_;obtain rfl:=T1;kernel_rfl!
 have G:Gd w 5 (c1 callerA s.heap L):=⟨B,(λz h=>nomatch h),Go.deeper _,(by rfl),rfl,rfl⟩
 have W:=Pt (w:=w) (A:=callerA) (g:=s.heap) (L:=L) G rfl S2 Xv hT hn (J:=λfl h=> ∃g',mU (hideAll s.heap [330]) g'/\(∃ps,g'.get? 330=aa (ei ps))/\ux g' [] (.bool ai) fl h) (λg' hk hp fl h hr=>⟨g',hk,hp,hr⟩)
 rw [<-O8] at W
 refine ab (W.run T3 T7) (λfl s' ⟨x,g',hk,hp,kk,rr⟩=> ?_) λz z e=>e.elim
 exact ⟨rr,(nB.of k).trans x,g',hk,hp,kk⟩
end
end
section
open PySem.Calls PyProof.Rows
noncomputable def bE:List eh:=behindTheImports mu
noncomputable def HS:Env:={scope:=mu.main.scope,locals:=mainNs,globals:=mainNs,cells:=[],code:=.ref 30,frame:=aa 31}
def cE:Code:=.body bE HS
noncomputable def sT (t:BT) (n k:Nat) (os:cY):SharedT:=⟨t,n,{},#[],{},k,os⟩
noncomputable def sH (h:aW) (k:Nat) (os:cY):aq:=⟨h,#[],{},k,os⟩
noncomputable def cs (s:List String):List Nat:=s.flatMap λx=>x.toList.map Char.toNat
def Nz (P:aQ) (m v:ay) (k n:Nat):Obj:=oD (en P "__name__" 165 m::((gE P).take 20++en P "c" 1346 v::((gE P).drop 20).take k)).toArray n
noncomputable def tl:List (Nat×Nat):=[(2,37),(21,60),(23,67),(25,75),(34,88),(72,96),(106,103),(129,110),(138,117),(147,124),(166,131),(191,148),(197,171),(206,178),(289,303),(295,308),(309,315),(313,320),(326,327),(332,332)]
def tb (k:Nat) (l:List (Nat×Nat)):Obj:=oN (l.flatMap λq=>[.int (.ofNat q.1) 0,.int (.ofNat k) 0,.ref q.2])
def oM (s:String) (t ln a k:Nat):Obj:=I6 (sS s t) (sS s (t+1)) t ln 0 0 0 a (t+3) k false [.none,.none,.none]
noncomputable def oR (a b:Nat) (m:ay):Obj:=⟨.type "frame",az,.plain,#[aa (.ref a),aa (.ref 3),aa (.ref b),az,aa m,az,aa (.ref 0)]⟩
def eB (P:aQ) (f:String->ay) (t:Nat) (l:List String):List je:=l.zipIdx.map λq=>en P q.1 (t+q.2) (f q.1)
def rP (s:String) (t fl a:Nat) (l:List Nat):List Obj:=[oL (l.zipIdx.map λq=>.int (.ofNat q.1) (t+2+q.2)).toArray,oD #[] 0,oT #[.none],pT l,pP s t fl a l.length]
noncomputable def uA:BT->List (Nat×Obj)->BT
 |t,[]=>t
 |t,(i,o)::l=>uA (t.set i λz=>o) l
noncomputable def ur:BT->Nat->List Obj->BT
 |t,_,[]=>t
 |t,n,o::l=>ur (t.ins n o) (n+1) l
def TU {α:Type} (f:FF α):α:=f (nM 1) "_wall" mA .none 37 282 2 1 0 3 (aa ["k"])
def I1 (P:aQ):Obj:=gD P (sS "__main__" 164) 9 10
def Rt (P:aQ):Obj:=gD P (sS "__main__" 164) 12 13
def RH (P:aQ):Obj:=gD P (sS "__main__" 164) 13 14
def QH (P:aQ):Obj:=gD P (sS "cpy313.email.quoprimime" 1336) 20 21
def Qj (P:aQ):Obj:=Nz P (sS "cpy313.email.quoprimime" 1336) (.int 57 1543) 0 22
def QE (P:aQ):Obj:=Nz P (sS "cpy313.email.quoprimime" 1336) (.int 9 1832) 0 22
def QK (P:aQ):Obj:=Nz P (sS "cpy313.email.quoprimime" 1336) (.int 9 1832) 4 26
def QB (P:aQ):Obj:=Nz P (sS "cpy313.email.quoprimime" 1336) (.int 10 1864) 4 26
def Q3 (P:aQ):Obj:=gD P (sS "cpy313.colorsys" 1900) 32 35
def Qe (P:aQ):Obj:=gD P (sS "cpy313.wsgiref.headers" 2054) 42 45
def PY (P:aQ):Obj:=gD P (sS "cpy313.wsgiref.headers" 2054) 43 46
def Qp (P:aQ):Obj:=gD P (sS "law_wv0059_01" 2317) 49 52
def I4 (P:aQ):Obj:=⟨.none,az,(.dict #[en P "imp\x6frt.loaded._sre" 183 (.bool ai),en P "class._frozen_importlib.BuiltinImporter" 185 (.ref 14),en P "watched.imp\x6frt" 206 (.ref 18),en P "class._frozen_importlib.ModuleSpec" 216 (.ref 22),en P "sys.modules.booked-epoch" 245 (.int 3 0),en P "imp\x6frt.later-laid._sre" 270 (.bool ai),en P "watched.library" 272 (.ref 27),en P "watched.library-objects" 0 (sS "\x0c" 0),en P "watched.library-deep._sre" 273 (sS "\x04\x00\x00\x0b\x04\x00\x00\x0b\x04\x00\x00\x03\x04\x00\x00\x0b\x08\x04dict\x02" 0)] 9),#[]⟩
noncomputable def DT:Obj:=⟨(.type "module"),(aa 0),.plain,#[]⟩
def Lz:Obj:=oN []
def Pf:Obj:=oQ (vb (z7 256) yc 1347) 0
def Pb:Obj:=Nq
def Oc:Obj:=Ni
def NU:Obj:=Nl
def k0 (P:aQ):Obj:=oD ([en P "__name__" 1 (sS "builtins" 160),en P "__doc__" 2 (.builtin "builtins.__doc__:str#opaque"),en P "__package__" 3 (.builtin "builtins.__package__:str#opaque"),en P "__loader__" 4 (.builtin "builtins.__loader__:shared#opaque"),en P "__spec__" 5 (.builtin "builtins.__spec__#opaque")]++eB P .builtin 6 ["__build_class__","__import__","abs","all","any","ascii","bin","breakpoint","callable","chr","compile","delattr","dir","divmod","eval","exec","format","getattr","globals","hasattr","hash","hex","id","input","isinstance","issubclass","iter","aiter","len","locals","max","min","next","anext","oct","ord","pow","print","repr","round","setattr","sorted","sum","vars"]++[en P "None" 50 .none,en P "Ellipsis" 51 .ellipsis,en P "NotImplemented" 52 .notImplemented,en P "False" 53 (.bool false),en P "True" 54 (.bool ai)]++eB P .type 55 ["bool","memoryview","bytearray","bytes","classmethod","complex","dict","enumerate","filter","float","frozenset","property","int","list","map","object","range","reversed","set","slice","staticmethod","str","super","tuple","type","zip"]++[en P "__debug__" 81 (.bool ai)]++eB P .type 82 ["BaseException","BaseExceptionGroup","Exception","GeneratorExit","KeyboardInterrupt","SystemExit","ArithmeticError","AssertionError","AttributeError","BufferError","EOFError","ImportError","LookupError","MemoryError","NameError","OSError","ReferenceError","RuntimeError","StopAsyncIteration","StopIteration","SyntaxError","SystemError","TypeError","ValueError","Warning","FloatingPointError","OverflowError","ZeroDivisionError","BytesWarning","DeprecationWarning","EncodingWarning","FutureWarning","ImportWarning","PendingDeprecationWarning","ResourceWarning","RuntimeWarning","SyntaxWarning","UnicodeWarning","UserWarning","BlockingIOError","ChildProcessError","ConnectionError","FileExistsError","FileNotFoundError","InterruptedError","IsADirectoryError","NotADirectoryError","PermissionError","ProcessLookupError","TimeoutError","IndentationError","_IncompleteInputError","IndexError","KeyError","ModuleNotFoundError","NotImplementedError","PythonFinalizationError","RecursionError","UnboundLocalError","UnicodeError","BrokenPipeError","ConnectionAbortedError","ConnectionRefusedError","ConnectionResetError","TabError","UnicodeDecodeError","UnicodeEncodeError","UnicodeTranslateError","ExceptionGroup"]++[en P "EnvironmentError" 151 (.type "OSError"),en P "IOError" 152 (.type "OSError"),en P "open" 153 (.builtin "open"),en P "quit" 154 (.builtin "builtins.quit#opaque"),en P "exit" 155 (.builtin "builtins.exit#opaque"),en P "copyright" 156 (.builtin "builtins.copyright#opaque"),en P "credits" 157 (.builtin "builtins.credits#opaque"),en P "license" 158 (.builtin "builtins.license#opaque"),en P "help" 159 (.builtin "builtins.help#opaque")]).toArray 159
def k1 (P:aQ):Obj:=oD #[en P "builtins" 162 (.ref 4),en P "__main__" 163 (.ref 5),en P "_sre" 244 (.ref 12)] 3
noncomputable def k5:Obj:=⟨(.type "module"),(aa 3),.plain,#[]⟩
def k6:Obj:=oD #[] 0
def k7:Obj:=oT #[]
def k8:Obj:=oN []
def k9:Obj:=oM "<module>" 176 1 7 175
def k10:Obj:=oR 9 3 (sS "__main__" 164)
def k11 (P:aQ):Obj:=oD #[en P "__name__" 247 (sS "_sre" 246),en P "__doc__" 248 .none,en P "__package__" 250 (sS "" 249),en P "__loader__" 251 (.builtin "off-the-table:_sre.__loader__:shared#opaque"),en P "__spec__" 252 (.builtin "off-the-table:_sre.__spec__:shared#opaque"),en P "compile" 253 (.builtin "_sre.compile"),en P "template" 254 (.builtin "off-the-table:_sre.template:shared#opaque"),en P "getcodesize" 255 (.builtin "off-the-table:_sre.getcodesize:shared#opaque"),en P "ascii_iscased" 256 (.builtin "off-the-table:_sre.ascii_iscased:shared#opaque"),en P "unicode_iscased" 257 (.builtin "off-the-table:_sre.unicode_iscased:shared#opaque"),en P "ascii_tolower" 258 (.builtin "off-the-table:_sre.ascii_tolower:shared#opaque"),en P "unicode_tolower" 259 (.builtin "off-the-table:_sre.unicode_tolower:shared#opaque"),en P "MAGIC" 261 (.int 20230612 260),en P "CODESIZE" 263 (.int 4 262),en P "MAXREPEAT" 265 (.int 4294967295 264),en P "MAXGROUPS" 267 (.int 1073741823 266),en P "copyright" 269 (sS " SRE 2.2.2 Copyright (c) 1997-2002 by Secret Labs AB " 268)] 17
noncomputable def k12:Obj:=⟨(.type "module"),(aa 11),.plain,#[]⟩
def Sz (P:aQ):Obj:=oD #[en P "__module__" 189 (sS "_frozen_importlib" 186),en P "__firstlineno__" 190 (.int 971 187),en P "__doc__" 191 (.builtin "_frozen_importlib.BuiltinImporter.__doc__:str#opaque"),en P "_ORIGIN" 192 (sS "built-in" 188),en P "find_spec" 193 (.builtin "_frozen_importlib.BuiltinImporter.find_spec#opaque"),en P "create_module" 194 (.builtin "_frozen_importlib.BuiltinImporter.create_module#opaque"),en P "exec_module" 195 (.builtin "_frozen_importlib.BuiltinImporter.exec_module#opaque"),en P "get_code" 196 (.builtin "_frozen_importlib.BuiltinImporter.get_code#opaque"),en P "get_source" 197 (.builtin "_frozen_importlib.BuiltinImporter.get_source#opaque"),en P "is_package" 198 (.builtin "_frozen_importlib.BuiltinImporter.is_package#opaque"),en P "load_module" 199 (.builtin "_frozen_importlib.BuiltinImporter.load_module#opaque"),en P "__static_attributes__" 200 (.ref 15),en P "__dict__" 202 (.ref 16),en P "__weakref__" 204 (.ref 17)] 14
def Sp:Obj:=oK "BuiltinImporter" 14 13 #[]
def Sl:Obj:=oT #[]
def SF:Obj:=oF "getset_descriptor" [(sS "__dict__" 201),(.ref 14),(.builtin "function.__dict__"),(.builtin "function.__dict__#set")]
def Sk:Obj:=oF "getset_descriptor" [(sS "__weakref__" 203),(.ref 14),(.builtin "ExceptionGroup.__weakref__"),.none]
def Sj:Obj:=⟨.none,az,(.seq #[(.int 13 0),(.str (S (cs ["\x06½\n__module_","_\x06º\x11_frozen_","importlib\x06¾\x0f","__firstlinen","o__\x04»\x00ϋ\x06¿\x07__","doc__\t4_froz","en_importlib",".BuiltinImpo","rter.__doc__",":str#opaque\x06","À\x07_ORIGIN\x06¼\x08","built-in\x06Á\tf","ind_spec\t2_f","rozen_import","lib.BuiltinI","mporter.find","_spec#opaque","\x06Â\rcreate_mo","dule\t6_froze","n_importlib.","BuiltinImpor","ter.create_m","odule#opaque","\x06Ã\x0bexec_modu","le\t4_frozen_","importlib.Bu","iltinImporte","r.exec_modul","e#opaque\x06Ä\x08g","et_code\t1_fr","ozen_importl","ib.BuiltinIm","porter.get_c","ode#opaque\x06Å","\nget_source\t","3_frozen_imp","ortlib.Built","inImporter.g","et_source#op","aque\x06Æ\nis_pa","ckage\t3_froz","en_importlib",".BuiltinImpo","rter.is_pack","age#opaque\x06Ç","\x0bload_module","\t4_frozen_im","portlib.Buil","tinImporter.","load_module#","opaque\x06È\x15__s","tatic_attrib","utes__\x04\x00\x00\x0f\x06Ê","\x08__dict__\x04\x00\x00","\x10\x06Ì\x0b__weakre","f__\x04\x00\x00\x11"])) 0),(.bool ai),(.bool ai),(sS "" 205),(.int 21 0),(.str (S (cs ["\x06ã\n__module_","_\x06Ù\x11_frozen_","importlib\x06ä\x0f","__firstlinen","o__\x04Ú\x00Ȳ\x06å\x07__","doc__\t/_froz","en_importlib",".ModuleSpec.","__doc__:str#","opaque\x06æ\x08__i","nit__\t,_froz","en_importlib",".ModuleSpec.","__init__#opa","que\x06ç\x08__repr","__\t,_frozen_","importlib.Mo","duleSpec.__r","epr__#opaque","\x06è\x06__eq__\t*_","frozen_impor","tlib.ModuleS","pec.__eq__#o","paque\x06é\x06cach","ed\t*_frozen_","importlib.Mo","duleSpec.cac","hed#opaque\x06ê","\x06parent\t*_fr","ozen_importl","ib.ModuleSpe","c.parent#opa","que\x06ë\x0chas_lo","cation\t0_fro","zen_importli","b.ModuleSpec",".has_locatio","n#opaque\x06ì\x15_","_static_attr","ibutes__\x04\x00\x00\x17","\x06î\x08__dict__\x04","\x00\x00\x18\x06ð\x0b__weak","ref__\x04\x00\x00\x19\x06ñ\x08","__hash__\x00"])) 0),(.bool ai),(.bool ai),(sS "" 242)] 1),#[]⟩
def SE:Obj:=oL #[]
def SB (P:aQ):Obj:=oD #[en P "name" 208 (sS "_sre" 207),en P "loader" 209 (.ref 14),en P "origin" 210 (sS "built-in" 184),en P "loader_state" 211 .none,en P "submodule_search_locations" 212 .none,en P "_uninitialized_submodules" 213 (.ref 19),en P "_set_fileattr" 214 (.bool false),en P "_cached" 215 .none,en P "_initializing" 243 (.bool false)] 9
def SG (P:aQ):Obj:=oD #[en P "__module__" 227 (sS "_frozen_importlib" 217),en P "__firstlineno__" 228 (.int 562 218),en P "__doc__" 229 (.builtin "_frozen_importlib.ModuleSpec.__doc__:str#opaque"),en P "__init__" 230 (.builtin "_frozen_importlib.ModuleSpec.__init__#opaque"),en P "__repr__" 231 (.builtin "_frozen_importlib.ModuleSpec.__repr__#opaque"),en P "__eq__" 232 (.builtin "_frozen_importlib.ModuleSpec.__eq__#opaque"),en P "cached" 233 (.builtin "_frozen_importlib.ModuleSpec.cached#opaque"),en P "parent" 234 (.builtin "_frozen_importlib.ModuleSpec.parent#opaque"),en P "has_location" 235 (.builtin "_frozen_importlib.ModuleSpec.has_location#opaque"),en P "__static_attributes__" 236 (.ref 23),en P "__dict__" 238 (.ref 24),en P "__weakref__" 240 (.ref 25),en P "__hash__" 241 .none] 13
def Sy:Obj:=oK "ModuleSpec" 22 21 #[]
def Su:Obj:=oT (nS 219 ["_cached","_set_fileattr","_uninitialized_submodules","loader","loader_state","name","origin","submodule_search_locations"]).toArray
def Sr:Obj:=oF "getset_descriptor" [(sS "__dict__" 237),(.ref 22),(.builtin "function.__dict__"),(.builtin "function.__dict__#set")]
def Sv:Obj:=oF "getset_descriptor" [(sS "__weakref__" 239),(.ref 22),(.builtin "ExceptionGroup.__weakref__"),.none]
noncomputable def So:Obj:=⟨(.ref 22),(aa 20),.plain,#[]⟩
def Sn:Obj:=⟨.none,az,(.seq #[(.int 11 0),(.str (S (cs ["\x06÷\x08__name__\x06","ö\x04_sre\x06ø\x07__d","oc__\x00\x06ú\x0b__pa","ckage__\x06ù\x00\x06û","\n__loader__\x04","\x00\x00\x0e\x06ü\x08__spec","__\x04\x00\x00\x1a\x06ý\x07com","pile\t\x0c_sre.c","ompile\x06þ\x08tem","plate\t\r_sre.","template\x06ÿ\x0bg","etcodesize\t\x10","_sre.getcode","size\x06Ā\rascii","_iscased\t\x12_s","re.ascii_isc","ased\x06ā\x0funico","de_iscased\t\x14","_sre.unicode","_iscased\x06Ă\ra","scii_tolower","\t\x12_sre.ascii","_tolower\x06ă\x0fu","nicode_tolow","er\t\x14_sre.uni","code_tolower","\x06ą\x05MAGIC\x04Ą\x00"]++[20230612]++cs ["\x06ć\x08CODESIZE\x04","Ć\x00\x04\x06ĉ\tMAXREP","EAT\x04Ĉ\x00"]++[4294967295]++cs ["\x06ċ\tMAXGROUPS","\x04Ċ\x00"]++[1073741823]++cs ["\x06č\tcopyright","\x06Č5 SRE 2.2.","2 Copyright ","(c) 1997-200","2 by Secret ","Labs AB "])) 0),(.bool ai),(.bool false),(sS "_sre" 271)] 0),#[]⟩
def a0 (P:aQ):List Obj:=[k0 P,k1 P,I4 P]
def a4 (P:aQ):List Obj:=[DT,k5,k6,k7,k8,k9,k10,k11 P,k12,Sz P,Sp,Sl,SF,Sk,Sj,SE,SB P,SG P,Sy,Su,Sr,Sv,So,Sn]
def QX:List Obj:=[oM "<module>" 277 1 28 276,oR 30 3 (sS "__main__" 164)]
def Cx (P:aQ):BT:=ur .nil 0 (a0 P++I1 P::(a4 P++oT #[]::oN []::QX))
def Rg (P:aQ):List Obj:=TU qq
def KV (P:aQ):BT:=ur (uA (Cx P) [(3,Rt P),(29,tb 0 (tl.take 1))]) 32 (Rg P)
def PA (P:aQ):List Obj:=[oF "range" [(.int 0 294),(.int 256 293),(.int 1 295)],oF "range_iterator" [(.int 256 0),(.int 0 0),(.int 1 0)],Rm,oD #[] 2,oT #[],oF "StopIteration" [(.ref 43),.none,.none,.none,(.bool false),.none]]
def MT (P:aQ):BT:=ur (uA (KV P) [(3,RH P)]) 39 (PA P)
def R5 (P:aQ):List Obj:=[oF "slice" [.none,.none,.none],oQ (z7 256) 0,oF "slice" [.none,.none,.none],oQ (z7 256) 0]
def Ip (P:aQ):BT:=ur (uA (MT P) [(3,QH P)]) 45 (R5 P)
def Nr (P:aQ):List Obj:=[oF "bytes_iterator" [.none,(.int 67 0)],oT #[],oF "StopIteration" [(.ref 50),.none,.none,.none,(.bool false),.none]]
def Ij (P:aQ):BT:=ur (uA (Ip P) [(3,Qj P),(46,Pf)]) 49 (Nr P)
def HL (P:aQ):BT:=ur (uA (Ij P) [(46,Pb)]) 52 []
def NE (P:aQ):List Obj:=[oF "bytes_iterator" [.none,(.int 95 0)],oT #[],oF "StopIteration" [(.ref 53),.none,.none,.none,(.bool false),.none]]
def Jd (P:aQ):BT:=ur (uA (HL P) [(3,QE P),(48,Oc)]) 52 (NE P)
def NG (P:aQ):List Obj:=PP qq++(Rf qq++([Ng]++(Rd qq++([oF "slice" [.none,.none,.none]]))))
def Iw (P:aQ):BT:=ur (uA (Jd P) [(3,QK P),(29,tb 0 (tl.take 4))]) 55 (NG P++[Ni])
def Nj (P:aQ):List Obj:=[oF "bytes_iterator" [.none,(.int 2 0)],oT #[],oF "StopIteration" [(.ref 80),.none,.none,.none,(.bool false),.none]]
def IC (P:aQ):BT:=ur (uA (Iw P) [(3,QB P),(78,NU)]) 79 (Nj P)
def Ny (P:aQ):List Obj:=[KD]++(QM qq++([M9]++(QO qq++(L7 qq++(Mu qq++(Li qq))))))
def IJ (P:aQ):BT:=ur (uA (IC P) [(3,Q3 P),(29,tb 0 (tl.take 9))]) 82 (Ny P)
def Nn (P:aQ):List Obj:=L8 qq++(MU qq++(rP "(?m)^\\." 1988 40 136 QV++(rP "(?:\\r\\n|\\n|\\r(?!\\n))" 2004 32 141 Px++(MG qq++(rP "[ \\(\\)<>@,;:\\\\\"/\\[\\]\\?=]" 2057 32 153 SS++(rP "[\\x00-\\x1F\\x7F]" 2091 32 158 Qy++(rP "[\\x00-\\x08\\x0A-\\x1F\\x7F]" 2117 32 163 Q7++([oT #[.none,(.int 1 2150)]]++(S9 qq)))))))))
def Il (P:aQ):BT:=ur (uA (IJ P) [(3,Qe P),(29,tb 0 (tl.take 13))]) 119 (Nn P)
def Nk (P:aQ):List Obj:=[oT #[],oF "builtin_function_or_method" [(.builtin "type.__prepare__"),(.type "type")],oD (en P "__module__" 2167 (sS "cpy313.wsgiref.headers" 2054)::en P "__qualname__" 2169 (sS "Headers" 2168)::(Sq P).take 19).toArray 21,oT #[],tb 4 [(208,186),(218,193),(226,200),(229,207),(233,212),(237,219),(240,226),(243,231),(247,239),(254,244),(257,249),(260,256),(263,263),(266,268),(269,275),(272,282),(275,289)],oM "Headers" 2162 206 176 276,oR 178 175 (sS "cpy313.wsgiref.headers" 2054),IT]++(Lx qq++(Ml qq++(SN qq++(Td qq++(S7 qq++(Tn qq++(Th qq++(MK qq++([Mq]++(LZ qq++(Lq qq++(L1 qq++(Mw qq++(SP qq++(Le qq++(Tk qq++(Tb qq++(La qq++([oT #[(sS "_headers" 2308)],QA P,QN,oF "getset_descriptor" [(sS "__dict__" 2310),(.ref 293),(.builtin "function.__dict__"),(.builtin "function.__dict__#set")],oF "getset_descriptor" [(sS "__weakref__" 2312),(.ref 293),(.builtin "ExceptionGroup.__weakref__"),.none],oF "super" [(.ref 293),(.ref 293),(.ref 293)],oF "builtin_function_or_method" [(.builtin "object.__init_subclass__"),(.ref 293)]])))))))))))))))))))
def It (P:aQ):BT:=ur (uA (Il P) [(3,PY P),(29,tb 0 (tl.take 14))]) 173 (Nk P)
def Nd (P:aQ):List Obj:=Mh qq++(Mm qq++(Mr qq++(Mk qq++(LO qq++(Fe qq)))))
def MY (P:aQ):BT:=ur (uA (It P) [(3,Qp P),(29,tb 0 (tl.take 20))]) 298 (Nd P)
def yY (P:aQ):aW:=⟨#[k0 P,k1 P,I4 P,I1 P,DT,k5,k6,k7,k8,k9,k10,k11 P,k12,Sz P,Sp,Sl,SF,Sk,Sj,SE,SB P,SG P,Sy,Su,Sr,Sv,So,Sn],{}⟩
def M2 (P:aQ):aW:=⟨(a0 P++I1 P::(a4 P++oT #[]::oN []::QX)).toArray,{}⟩
def SD:Obj:=oF "slice" [.none,.none,.none]
def qI (P:aQ):aW:=⟨(a0 P++o3 P::(a4 P++oT #[]::tb 0 (tl.take 20)::(QX++(Rg P++(PA P++(SD::Nq::SD::Ni::(Nr P++(NE P++(NG P++Nl::(Nj P++(Ny P++(Nn P++(Nk P++Nd P))))))))))))).toArray,{}⟩
def PX (f:Nat) (l:List Nat) (t:aQ->BT) (a b:Nat) (p:Pos) (t':aQ->BT) (a' b':Nat) (p':Pos) (w:av):Prop:=
 ∀os:cY,segRunT hG mu w 28 (aa (.ref 6)) 1 f (sT (t w.params) a b os) (piecesOf (l.map nM) HS cE p [topFrame ⟨0,0,0,0⟩])=aa (.next,sT (t' w.params) a' b' os,cE,p')
end
local macro_rules | `(tactic| walk_at "hd") => `(tactic| (intro w os; rw [PySem.W.Fast.te10110043849684766642, PySem.W.Fast.te14364793385576792824]; unfold piecesOf; rw [PySem.W.Fast.te12563942051412417395]; kernel_rfl))
section
open PySem.Calls PyProof.Rows
def P0:av->Prop:=PX 447 [1,2,3] Cx 32 282 ⟨0,0,0,0⟩ KV 39 293 ⟨6,0,6,2⟩
theorem q0: ∀w:av,P0 w:=by walk_at "hd"
def P2:av->Prop:=PX 532 [5,6,7,8,9,10,11,12] MT 45 1321 ⟨7,0,7,11⟩ Ip 49 1338 ⟨15,0,15,8⟩
theorem q2: ∀w:av,P2 w:=by walk_at "hd"
def P4:av->Prop:=PX 424 [14] Ij 52 1546 ⟨16,9,16,74⟩ HL 52 1549 ⟨18,0,18,28⟩
theorem q4: ∀w:av,P4 w:=by walk_at "hd"
def P6:av->Prop:=PX 518 [16,17,18,19] Jd 55 1835 ⟨19,9,19,110⟩ Iw 79 1860 ⟨30,0,30,23⟩
theorem q6: ∀w:av,P6 w:=by walk_at "hd"
def P7:av->Prop:=PX 517 [20] Iw 79 1860 ⟨30,0,30,23⟩ IC 82 1867 ⟨31,9,31,16⟩
theorem TD: ∀w:av,P7 (bv w "special-get-raises" false):=by walk_at "hd"
theorem TC: ∀w:av,P7 (bv w "special-get-raises" ai):=by walk_at "hd"
theorem q7: ∀w:av,P7 w:=(lZ "special-get-raises" (P:=λw=>P7 w) TD TC)
def P8:av->Prop:=PX 648 [21,22,23,24,25,26,27,28,29,30] IC 82 1867 ⟨31,9,31,16⟩ IJ 119 1953 ⟨138,0,146,13⟩
theorem q8: ∀w:av,P8 w:=by walk_at "hd"
def P9:av->Prop:=PX 932 [31,32,33,34,35,36,37,38,39,40,41,42] IJ 119 1953 ⟨138,0,146,13⟩ Il 173 2160 ⟨197,0,205,20⟩
theorem q9: ∀w:av,P9 w:=by walk_at "hd"
def TL:av->Prop:=PX 1126 [43] Il 173 2160 ⟨197,0,205,20⟩ It 298 2317 ⟨206,0,287,93⟩
theorem TN: ∀w:av,TL w:=by walk_at "hd"
def TT:av->Prop:=PX 585 [44,45,46,47,48,49,50] It 298 2317 ⟨206,0,287,93⟩ MY 334 2369 ⟨332,0,389,71⟩
theorem TE: ∀w:av,TT w:=by walk_at "hd"
def P1:av->Prop:=PX 9941 [4] KV 39 293 ⟨6,0,6,2⟩ MT 45 1321 ⟨7,0,7,11⟩
theorem Tq: ∀w:av,P1 (bv (bv w "special-get-raises" false) "comprehension-iter-twice" false):=by walk_at "hd"
theorem Tm: ∀w:av,P1 (bv (bv w "special-get-raises" ai) "comprehension-iter-twice" false):=by walk_at "hd"
theorem To: ∀w:av,P1 (bv (bv w "special-get-raises" false) "comprehension-iter-twice" ai):=by walk_at "hd"
theorem Te: ∀w:av,P1 (bv (bv w "special-get-raises" ai) "comprehension-iter-twice" ai):=by walk_at "hd"
theorem q1: ∀w:av,P1 w:=(lZ "comprehension-iter-twice" (P:=λw=>P1 w) (lZ "special-get-raises" (P:=λw=>P1 (bv w "comprehension-iter-twice" false)) Tq Tm) (lZ "special-get-raises" (P:=λw=>P1 (bv w "comprehension-iter-twice" ai)) To Te))
def P3:av->Prop:=PX 3476 [13] Ip 49 1338 ⟨15,0,15,8⟩ Ij 52 1546 ⟨16,9,16,74⟩
theorem Tv: ∀w:av,P3 (bv w "special-get-raises" false):=by walk_at "hd"
theorem TB: ∀w:av,P3 (bv w "special-get-raises" ai):=by walk_at "hd"
theorem q3: ∀w:av,P3 w:=(lZ "special-get-raises" (P:=λw=>P3 w) Tv TB)
def P5:av->Prop:=PX 4702 [15] HL 52 1549 ⟨18,0,18,28⟩ Jd 55 1835 ⟨19,9,19,110⟩
theorem TR: ∀w:av,P5 (bv w "special-get-raises" false):=by walk_at "hd"
theorem TG: ∀w:av,P5 (bv w "special-get-raises" ai):=by walk_at "hd"
theorem q5: ∀w:av,P5 w:=(lZ "special-get-raises" (P:=λw=>P5 w) TR TG)
theorem Oj: ∀w:av,(fencedOpening hG mu w 40000).map (λs=>(s.heap,s.gens,s.drawn,s.toks))=aa (yY w.params,(#[]:Array GenState),({}:Drawn),276):=by
 intro w
 unfold fencedOpening
 rw [PySem.W.Fast.te10274390034422433532,PySem.W.Fast.te14364793385576792824]
 kernel_rfl
theorem Ph: ∀w:av,((yY w.params).isNs bm&&(#[]:Array GenState).size==0,(yY w.params).objs.size,(yY w.params).nsMap bm "__annotations__")=(ai,28,aa (.ref 6)):=by
 intro w
 kernel_rfl
theorem PE: ∀(w:av) (os:cY),topGo hG mu w 28 (aa (.ref 6)) 12 (sH (yY w.params) 276 os) (topStub mu)=aa (sH (M2 w.params) 282 os,⟨denote hG cE,cE,⟨0,0,0,0⟩,[topFrame ⟨0,0,0,0⟩]⟩):=by
 intro w os
 rw [PySem.W.Fast.te15667345088766844465,PySem.W.Fast.te14364793385576792824,PySem.W.Fast.te11892475500146522536]
 kernel_rfl
theorem LV: ∀(w:av) (os:cY),segRun hG mu w 28 (aa (.ref 6)) 1 100 (sH (M2 w.params) 282 os) (blockOf bE HS cE ⟨0,0,0,0⟩ [topFrame ⟨0,0,0,0⟩])=aa (.next,(sT (Cx w.params) 32 282 os).abs,cE,⟨0,0,0,0⟩):=by
 intro w os
 rw [PySem.W.Fast.te14374325043358763698,PySem.W.Fast.te14364793385576792824]
 kernel_rfl
theorem Rc: ∀(w:av) (os:cY),topRun hG mu w 28 (aa (.ref 6)) 2 (sT (MY w.params) 334 2369 os).abs ⟨doneF .next,cE,⟨332,0,389,71⟩,[topFrame ⟨0,0,0,0⟩]⟩=aa (sH (qI w.params) 2369 os):=by
 intro w os
 rw [PySem.W.Fast.te14082659384304107361,PySem.W.Fast.te14364793385576792824]
 kernel_rfl
def qV:aH:={mu with main:={mu.main with body:=[nM 0,nM 50]}}
noncomputable def sw:List Str:=[.ofString "_wall",.ofString "CRLF_quoprimime",.ofString "NL",.ofString "_QUOPRI_MAP",.ofString "_QUOPRI_HEADER_MAP",.ofString "_QUOPRI_BODY_MAP",.ofString "ascii_lowercase",.ofString "ascii_uppercase",.ofString "ascii_letters",.ofString "digits",.ofString "hexdigits",.ofString "unquote",.ofString "quote",.ofString "header_encode",.ofString "_QUOPRI_BODY_ENCODE_MAP",.ofString "body_encode",.ofString "decode",.ofString "ONE_THIRD",.ofString "ONE_SIXTH",.ofString "TWO_THIRD",.ofString "rgb_to_hls",.ofString "hls_to_rgb",.ofString "_v",.ofString "rgb_to_hsv",.ofString "hsv_to_rgb",.ofString "_twin_re_1",.ofString "_twin_re_2",.ofString "CRLF_smtplib",.ofString "quotedata",.ofString "tspecials",.ofString "_name_disallowed_re",.ofString "_value_disallowed_re",.ofString "_formatparam",.ofString "Headers",.ofString "_law_hue",.ofString "_law_turned",.ofString "_law_grey",.ofString "_law_told",.ofString "_law_refused"]
theorem RY:bE=[1,2,3].map nM++([4].map nM++([5,6,7,8,9,10,11,12].map nM++([13].map nM++([14].map nM++([15].map nM++([16,17,18,19].map nM++([20].map nM++([21,22,23,24,25,26,27,28,29,30].map nM++([31,32,33,34,35,36,37,38,39,40,41,42].map nM++([43].map nM++([44,45,46,47,48,49,50].map nM++([])))))))))))):=by kernel_rfl
theorem Pu: ∀(w:av) (os:cY),topRun hG mu w 28 (aa (.ref 6)) (12+(100+(447+(9941+(532+(3476+(424+(4702+(518+(517+(648+(932+(1126+(585+(2))))))))))))))) (sH (yY w.params) 276 os) (topStub mu)=aa (sH (qI w.params) 2369 os):=by
 intro w os
 refine go_top (PE w os) (piece_block (b:=bE) (env:=HS) (LV w os) ?_)
 rw [congrArg restOf RY]
 exact (eC (ez (q0 w os)) (eC (ez (q1 w os)) (eC (ez (q2 w os)) (eC (ez (q3 w os)) (eC (ez (q4 w os)) (eC (ez (q5 w os)) (eC (ez (q6 w os)) (eC (ez (q7 w os)) (eC (ez (q8 w os)) (eC (ez (q9 w os)) (eC (ez (TN w os)) (eC (ez (TE w os)) (piece_nil (Rc w os))))))))))))))
noncomputable def xT (_:aq):Bool:=ai
noncomputable def Pv:List aF:=[3,41,46,48,60,61,67,68,69,75,76,78,82,88,89,90,96,97,103,104,110,111,117,118,124,125,131,132,136,137,141,142,148,149,158,159,163,164,180,186,187,193,194,231,232,233,239,240,244,245,249,250,256,257,268,269,289,290,292,293,303,304,308,309,315,316,320,321,327,328,332,333]
theorem Tt: ∀(w:av) (os:cY),staticsOk (importedModules mu.main.body) (yY w.params) (qI w.params)=ai:=by
 intro w os
 rw [PySem.W.Fast.te5923862056798008813]
 kernel_rfl
theorem Tx: ∀(w:av) (os:cY),namesBound mu (qI w.params)=ai:=by
 intro w os
 kernel_rfl
theorem TP: ∀(w:av) (os:cY),laidKept (yY w.params) (qI w.params)=ai:=by
 intro w os
 kernel_rfl
theorem TQ: ∀(w:av) (os:cY),seen ((recsOf qV).map (·.name)) (ownsOf qV) [] {(sH (qI w.params) 2369 os) with gens:= #[]}=expectedOf qV:=by
 intro w os
 rw [PySem.W.Fast.te5160383126252970620]
 kernel_rfl
theorem TH: ∀(w:av) (os:cY),(qI w.params).bltView=bltViewBooted:=by
 intro w os
 kernel_rfl
theorem TJ: ∀(w:av) (os:cY),(qI w.params).keysOk (looseW qV sw) ((recsOf qV).map (·.name)) ((litsOf qV).map (·.1)) ((clssOf qV (looseW qV sw)).map (·.name))=ai:=by
 intro w os
 rw [PySem.W.Fast.te10880121769531294198]
 kernel_rfl
theorem TY: ∀(w:av) (os:cY),(qI w.params).accountedOkI (importedModules mu.main.body)=ai:=by
 intro w os
 rw [PySem.W.Fast.te14722251495701143533]
 rw [PySem.W.Fast.te5923862056798008813]
 kernel_rfl
theorem TS: ∀(w:av) (os:cY),Bool.and ((qI w.params).isNs bm) ((qI w.params).isNs dh)=ai:=by
 intro w os
 kernel_rfl
theorem TV: ∀(w:av) (os:cY),tablesOk qV (qI w.params)=ai:=by
 intro w os
 rw [PySem.W.Fast.te10994771534591457954]
 kernel_rfl
theorem Tz: ∀(w:av) (os:cY),tabsOk qV (sH (qI w.params) 2369 os)=ai:=by
 intro w os
 rw [PySem.W.Fast.te479339242167458305]
 kernel_rfl
theorem SO: ∀(w:av) (os:cY),pinSeenD qV (drecsOf qV) (sH (qI w.params) 2369 os)=pinGoodD (drecsOf qV):=by
 intro w os
 rw [PySem.W.Fast.te16090120013241838585]
 kernel_rfl
theorem SH: ∀(w:av) (os:cY),plainSeenE qV (looseW qV sw) (sH (qI w.params) 2369 os)=plainGoodE qV (looseW qV sw):=by
 intro w os
 rw [PySem.W.Fast.te2386780881361962483]
 kernel_rfl
theorem Tc: ∀(w:av) (os:cY),plainSeenD qV sw (sH (qI w.params) 2369 os)=plainGoodD qV sw:=by
 intro w os
 rw [PySem.W.Fast.te11698064438423848299]
 kernel_rfl
theorem Tl: ∀(w:av) (os:cY),wideSeen qV (sH (qI w.params) 2369 os)=wideGood qV:=by
 intro w os
 rw [PySem.W.Fast.te7317090234206586261]
 kernel_rfl
theorem Tj: ∀(w:av) (os:cY),clsSeenW qV sw (sH (qI w.params) 2369 os)=clsGoodW qV sw:=by
 intro w os
 rw [PySem.W.Fast.te7369524293546568484]
 kernel_rfl
end
section
open PySem.Calls PyProof.Rows
open PySem.Challenge (rw_wv0059_01)
def J6 (P:aQ):Frag:=(2,I4 P)::(4,DT)::(330,Lz)::KB P
def vU:Hook:=kHook J6 (2::4::330::Pv) (λz=>by kernel_rfl)
theorem TA: ∀(w:av) (os:cY),vU.obs (sH (qI w.params) 2369 os)=vU.val w:=by
 intro w os
 kernel_rfl
theorem Qv {P:aQ} {a:aF} {o:Obj} (e:(KB P).lookup a=aa o):(J6 P).lookup a=aa o:=by
 have h2:(KB P).lookup 2=az:=by kernel_rfl
 have h4:(KB P).lookup 4=az:=by kernel_rfl
 have h3:(KB P).lookup 330=az:=by kernel_rfl
 have n2:(a==2)=false:=by
  have:a≠2:=λq=>by rw [q,h2] at e;exact nE e
  simpa using this
 have n4:(a==4)=false:=by
  have:a≠4:=λq=>by rw [q,h4] at e;exact nE e
  simpa using this
 have n3:(a==330)=false:=by
  have:a≠330:=λq=>by rw [q,h3] at e;exact nE e
  simpa using this
 unfold J6
 rw [aD,n2,aD,n4,aD,n3]
 exact e
section
variable {w:av} {h:aW}
theorem Pk (Y:vU.says w h):(KB w.params).In h:=λa o e=>kIn_of Y a o (Qv e)
theorem Ra (Y:vU.says w h):tg h:=by
 have X:(J6 w.params).In h:=kIn_of Y
 have ok:nsOkIn (J6 w.params) iZ=ai:=by kernel_rfl
 exact ⟨_,.of_isNs (kG X ok),nsMap_none_of_in X ok (by kernel_rfl)⟩
theorem Q0 (Y:vU.says w h):Bm h:=⟨DT,kIn_of Y 4 _ (by kernel_rfl),rfl,rfl,rfl⟩
theorem Er (Y:vU.says w h):h.get? 330=aa (ei #[]):=kIn_of Y 330 _ (by kernel_rfl)
theorem Oq {h:aW} {a:aF} {m m':Str->Option ay} (x:h.Ns a m) (y:h.Ns a m') (n:Str):m n=m' n:=by
 refine rZ x λo es ep e1 e2 z e3=> ?_
 refine rZ y λo' es' ep' q1 q2 z q3=> ?_
 rw [e1] at q1;obtain rfl:=am q1
 rw [e2] at q2;cases q2
 rw [<-e3,<-q3]
end
set_option maxHeartbeats 4000000 in
theorem Lr:LeftO mu qV sw xT vU.obs vU.val 40000:=by
 refine LeftO.of_pieces Oj Ph (λw os=>Pu w os) (by rfl) (λw=>funext λos=> ?_)
 refine eU ?_ (eU ?_ ?_)
 ·show (_&&_&&_&&_)=ai
  rw [Tt w os,Tx w os,TP w os]
  rfl
 ·show (_,_,(_&&_&&_&&_&&_&&_&&_),_,_,_,_,_,_)=(_,_,_,_,_,_,_,_,_)
  have e7:=aP.mp (TS w os)
  refine eU (TQ w os) (eU (TH w os) (eU ?_ (eU (Tz w os) (eU (SO w os) (eU (SH w os) (eU (Tc w os) (eU (Tl w os) (Tj w os))))))))
  refine aP.mpr ⟨aP.mpr ⟨aP.mpr ⟨aP.mpr ⟨aP.mpr ⟨aP.mpr ⟨TJ w os,TY w os⟩,e7.1⟩,e7.2⟩,TV w os⟩,by kernel_rfl⟩,by kernel_rfl⟩
 ·exact TA w os
theorem RI:rw_wv0059_01.wellSaid=ai:=by
 rw [PySem.W.Fast.te9446332074065402090]
 kernel_rfl
theorem JU:(defOf qV "law").isSome=ai:=by kernel_rfl
def Cw:DefRec×List (Str×Expr):=(defOf qV "law").get JU
theorem Ri {R:WRecords} {x:WData} (h:WShape.has R x .int=ai): ∃i,x= .int i:=by
 cases x with
 |int i=>exact ⟨i,rfl⟩
 |_=>exact nomatch (show false=ai from h)
theorem JH {R:WRecords} {cl:Str->Option aF} {h:aW} {v:ay} {i:Int} {as:List aF} (r:ReadsW R cl h v (.int i) as): ∃t,v= .int i t:=by
 cases r;exact ⟨_,rfl⟩
theorem Ik {R:WRecords} {cl:Str->Option aF} {h:aW} {vs:List ay} {x:WData} {xs:List WData} {as:List aF} (r:ReadsAllW R cl h vs (x::xs) as): ∃v us a b,vs=v::us/\ReadsW R cl h v x a/\ReadsAllW R cl h us xs b:=by
 cases r with
 |cons r rs=>exact ⟨_,_,_,_,rfl,r,rs⟩
theorem Ks {R:WRecords} {cl:Str->Option aF} {h:aW} {xs:List WData}: ∀{vs:List ay} {as:List aF},mh R xs .int=ai->ReadsAllW R cl h vs xs as-> ∃ns:List Int,xs=ns.map WData.int/\mK [] h (ns.map PV.int) vs:=by
 induction xs with
 |nil=>intro vs as _ r;cases r;exact ⟨[],rfl,mK.nil⟩
 |cons x xs ih=>
  intro vs as hs r
  refine eA (aP.mp hs) λh1 h2=>eE (Ri h1) λi e=> ?_
  subst e
  obtain ⟨v,us,a,b,rfl,r,rs⟩:=Ik r
  refine eE (JH r) λt e=>mR (ih h2 rs) λns e' q=> ?_
  subst e e'
  exact ⟨i::ns,rfl,mK.cons tH q⟩
theorem OM {args:List WData} (hp:rw_wv0059_01.row.toRowW.claim.pre args=ai): ∃xs,args=[.list xs]/\mh [] xs .int=ai/\xs.length<=63:=by
 obtain ⟨h1,h2⟩:=pre_splitW hp
 obtain ⟨d,r,rfl,h3,h4⟩:=hasAllW_cons h1
 have:=hasAllW_nil h4
 subst this
 have h3:WShape.has [] d (.list .int)=ai:=h3
 cases d with
 |list xs=>
  refine ⟨xs,rfl,(iM _).symm.trans h3,?_⟩
  have h2:(OpenLaw.pre rw_wv0059_01).holds [] {args:=[.list xs]}=ai:=h2
  rcases dI 63 xs.length with h|h
  ·exfalso
   have e:(OpenLaw.pre rw_wv0059_01).holds [] {args:=[.list xs]}=false:=by
    show WTm.holds [] (.and (.not (.lt (.lit (.int 63)) (.len (.arg 0)))) (.lit (.bool ai))) _=false
    have e:less? (.int 63) (.int (xs.length:Int))=aa ai:=by simp [less?,Num.less?,Num.order?];omega
    simp [WTm.holds,WTm.value,e]
   rw [e] at h2;exact oJ h2
  ·exact h
 |_=>exact nomatch (show false=ai from h3)
theorem Lg {args:List WData}:rw_wv0059_01.row.toRowW.claim.post args (.bool ai) args=ai:=by
 kernel_rfl
theorem Kv {w:av} {h:aW} (b:(KB w.params).In h):isCodeTable h 330:=by
 have e:=b 332 (Fe M6) (by kernel_rfl)
 exact ⟨332,_,_,e,rfl,rfl,by kernel_rfl⟩
theorem O9 {h h' g':aW} (ht:isCodeTable h 330) (hT:h.get? 330=aa (ei #[])) (k:mU (hideAll h [330]) g') (hp: ∃ps,g'.get? 330=aa (ei ps)) (kk:mU g' h'):OldK h h':=by
 obtain ⟨ps,hp⟩:=hp
 refine ⟨λb o e=> ?_,λb o e=> ?_⟩
 ·by_cases hb:b=330
  ·subst hb
   rw [hT] at e;obtain rfl:=am e
   exact .inr (.inl ⟨ht,rfl,#[],ps,rfl,by rw [kk _ _ hp];simp [ei]⟩)
  ·exact .inl (kk _ _ (k _ _ (sv hb e)))
 ·by_cases hb:b=330
  ·exact ⟨_,hb▸kk _ _ hp⟩
  ·exact ⟨o,kk _ _ (k _ _ (sv hb e))⟩
theorem Ta:WalkO qV sw (λz z=>True) vU.says rw_wv0059_01.row.toRowW Cw.1 Cw.2 (λf vs=>PySem.call f vs):=by
 intro w Vw T0 mg mb G Y a o pm cd doc dV kV h1 h2 h3 h4 h5 hg args VX as Wi hlay hrd hwell hlo
 have kb:=Pk Y
 have B:oi w.params T0.heap:=⟨kb,G.T.nolimit,mb,G.T.b,λx hx=>G.T.builtins x (λq=>by rw [q] at hx;exact absurd hx (by decide+kernel))⟩
 have ha:a=333:=by
  obtain ⟨m,n,e⟩:BH T0.heap "law" (.ref 333):=B.glob (by kernel_rfl)
  have:=Oq n G.T.g "law"
  rw [e] at this
  have h5:mg "law"=aa (.ref a):=h5
  rw [h5] at this
  cases this;rfl
 subst ha
 obtain ⟨xs,rfl,hi,hl⟩:=OM Wi
 obtain ⟨v,rfl⟩: ∃v,VX=[v]:=by
  cases hrd with
  |cons r rs=>cases rs;exact ⟨_,rfl⟩
 have hv: ∃ns:List Int,ns.length<=63/\mP [] T0.heap (.list (ns.map PV.int)) v:=by
  cases hrd with
  |cons r rs=>
   cases r with
   |list e1 e2 e3 e4=>
    obtain ⟨ns,e,q⟩:=Ks hi e4
    refine ⟨ns,by rw [e,ah] at hl;exact hl,uD (λh=>nomatch h) ⟨_,e1,e2,_,by rw [e3]⟩ q⟩
 obtain ⟨ns,hn,r⟩:=hv
 refine ab (KW B (Ra Y) (Q0 Y) (Er Y) hn r) (λv' s' ⟨e,⟨h',tk,x⟩,g',k,hp,kk⟩=> ?_) λz z e=>e.elim
 subst e x
 refine ⟨.inl ⟨_,.bool ai,[],rfl,λz=>rfl,.bool ai,Lg,λz=>⟨List.nodup_nil,λz h=>nomatch h⟩⟩,O9 (Kv kb) (Er Y) k hp kk,rfl,.of_eq hg⟩
theorem qt (walk:WalkO qV sw (λz z=>True) vU.says rw_wv0059_01.row.toRowW Cw.1 Cw.2 (λf vs=>PySem.call f vs)):rw_wv0059_01.Holds:=by
 refine holds_law RI λk1=> ?_
 refine holds_open (q:=qV) (loose:=sw) (Xt:=xT) (XP:=λz z=>True) (Yf:=vU.obs) (Ya:=vU.val) (YP:=vU.says) (d:=Cw.1) (kwd:=Cw.2) (N:=40000) Lr (Hook.of vU) (Hook.keeps vU) (λz z=>trivial) (λz z z z z=>trivial) ?_ ?_ ?_ (λs z=>recFacts_of (by rfl)) (by rfl) k1 ?_ ?_ ?_ walk
 ·kernel_rfl
 ·kernel_rfl
 ·kernel_rfl
 ·kernel_rfl
 ·exact ⟨rfl,rfl,rfl,rfl,rfl,by decide+kernel⟩
 ·exact ⟨[.list []],by decide+kernel,by decide+kernel⟩
end
end
end Mine
theorem PySem.Challenge.cw_wv0059_01_holds : PySem.Challenge.rw_wv0059_01.Holds := by
 refine Mine.qt Mine.Ta
