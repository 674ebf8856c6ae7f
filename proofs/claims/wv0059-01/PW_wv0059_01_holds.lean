import PyProof.Rows.All
import PyProof.ExcFactsAll.ValueError
import PyProof.ExcStrAll.ValueError
import PyProof.Rows.Catch
import PyProof.Rows.SumAny
import PyProof.Rows.SortShell
import PyProof.Rows.SortWalk
import Flt.RightOps
import Flt.RightMore
import Flt.Ops
import Flt.Calls
import KE.BytesMake
import KE.KCallOwn
import KE.KLam
import KE.KFromBytes
import KE.KPairComp
import KE.KxPercentT
import Wide.FinOn
import OpenK.AllK
import Wide.Txt2
import Wide.All
import PySem.Challenge.RW_wv0059_01
set_option Elab.async false
set_option maxRecDepth 100000
set_option linter.unusedVariables false
set_option tactic.hygienic false
open Option renaming some->aa,none->az,bind_eq_some_iff->bd,map_eq_some_iff->dT,bind_some->gG,none->jr,isSome_iff_exists->jR
open PySem.Challenge renaming pw_wv0059_01->mJ
open PySem renaming wpAny_mono->ab,wpAny_bind->ae,wpAny_pure->aj,Shared->aq,World->au,sizeLine_eq->aw,Value->ay,wpAny->aC,starEach->aE,Addr->aF,Program->aG,model->aI,Params->aQ,Heap->aW,Around->aX,callEnvC->bf,mainGlobals->bn,sizeLine->bo,cellsFrom->bv,FuncData->bz,builtinLookup_eq_fast->bA,Keeps->bB,wpAny_of_eq->bD,eval->bJ,wpAny_holding->bL,compareOp->bP,keywordEach->bR,wpAny_ite_true->bT,wpAny_ite_false->bZ,binaryOp->cf,execs_cons->ci,wpAny_Call_Name_kw->cm,typeLookup_type->cz,wpAny_items_cons->cB,OsState->cD,wpAny_items_nil->cG,swapsWith->cK,partValue->cL,backToKw->cN,wpAny_Assign_Name->cO,foldedSetIterable->cP,letOwnedTupleGo->cT,strValues->c8,attributeBase->db,builtinsNs->dh,wpAny_call_entry->dA,recursionLimit->dC,wpAny_assign_Name->dM,wpAny_Call_method->dN,clipAt->dQ,typeIs_str->dR,wpAny_seqItems->dY,isSubtype_type->dZ,wpAny_field->ed,Stmt->eh,wpAny_call->eo,wpAny_pyIter_tuple->et,bindArgs->ey,wpAny_standAt->eD,wpAny_newObj_type->eI,rawInt->eQ,Keyword->eW,backTo->fb,wpAny_updateSeq->fg,wpAny_specialOf->fh,call->ft,typeLookup->fu,cLine->fw,wpAny_callSpecial?_slot->fz,wpAny_Expr_any->fM,wpAny_truthy_bool->fO,slot_list_getitem->fP,treeTable->fW,wpAny_mkStr->gh,codeAny_builtin->gq,codeAny->gx,callWith->gJ,wpAny_rule->gK,closureFor->gL,call_meets->gM,Flow->gV,holding->gW,IsPair->gZ,wpAny_getItem_list_slice->g8,getMethod->hZ,entryFor_of_tree->ib,PyData->iu,standAt->iv,bootBuiltins->ix,execs->iB,wpAny_loadPart'->iF,wpAny_execs_nil->iG,wpAny_storeName_local->iO,wpAny_allTrue_Or_cons->iP,compEnvC->iY,cStatics->iZ,ZipApart->i4,interactive->i6,letTemporaryGo->i8,codeAny_call_builtin->i9,seqIndex?->jf,DictEntry->jg,plainId_quiet->jw,wpAny_Name->jC,wpAny_List->jD,PlainAttrs->jE,wpAny_isTrue_value->jF,wpAny_Return_some->jM,isSubtype->jT,wpAny_isInstance->jW,wpAny_letOwnedTupleGo_listiter->jY,wpAny_Slice->j7,wpAny_BinOp->j8,pushCells_keeps->kj,linesOf->kr,typeOf->kE,NameKind->kG,wpAny_loadPart->kK,wpAny_attempt->lz,signature?_of->lA,rangeSize_one->lB,evalPart_none->lD,behindInMarks->lE,stripSame->lQ,compTests->lR,wpAny_list_append_plain->lT,wpAny_callSpecial?_none->lU,pyNext->l9,assign->mc,argBest->mh,BindsTo->mi,wpAny_nextOf_list_item->mo
open List renaming length_append->af,range->ag,length_map->ah,mem_singleton->ak,mem_cons->ao,mem_append->ar,mem_append_left->ax,getElem?_eq_getElem->aA,map_map->aB,lookup->aD,replicate->aH,append_assoc->aJ,mem_map->aK,mem_range->aL,mem_append_right->aM,getElem?_eq_some_iff->aT,length_cons->aU,map_congr_left->aV,length_eq_zero_iff->aY,getD_eq_getElem?_getD->aZ,getElem?_map->a7,length_replicate->a8,map_cons->ba,length_range->be,flatMap_cons->bh,map_append->bi,length->bj,size_toArray->bq,all_eq_true->br,mem_of_getElem?->bu,cons_append->bx,take_of_length_le->bF,length_drop->bH,append_nil->bK,length_nil->bQ,flatMap_append->bV,filter_eq_self->bW,flatMap_def->cn,replicate_succ->cq,flatten_cons->cu,range_succ->cy,eq_nil_of_length_eq_zero->cC,forIn_cons->cF,mem_flatMap->cU,getElem_range->cX,getLast?_eq_some_getLast->c7,foldl_append->dc,length_take->dm,getElem_mem->dn,mem_cons_self->dy,nil_append->dD,zip->dF,range'_append_1->dG,take_succ_eq_append_getElem->dH,length_pos_iff->dP,pairwise_cons->dU,mem_replicate->dW,lookup_append->dX,sum_cons->eb,drop_zero->eG,forall_mem_cons->eH,take_length->eJ,take_succ_cons->eN,flatten_append->eO,map->eV,mem_filter->eX,foldl_cons->eY,map_singleton->eZ,map_replicate->fa,range'->fc,reverse_cons->fi,drop_of_length_le->fj,drop_eq_nil_of_le->fq,not_mem_nil->fD,cons_ne_nil->fE,mem_cons_of_mem->fS,length_dropLast->fT,getLastD_concat->fU,length_flatMap->fZ,take_left->gm,getLastD_eq_getLast?->gv,drop_eq_getElem_cons->gw,take_add_one->gA,getLast?_map->gB,getElem_map->gO,ext_getElem->gQ,filter_cons_of_pos->gS,filter_cons_of_neg->gU,map_nil->gX,flatMap_singleton->gY,contains_iff_mem->hG,forIn_nil->ik,filterMap->io,length_take_le'->ir,length_take_le->iH,getD_cons_succ->iI,map_take->iK,all_cons->iL,zip_cons_cons->iU,zipWith->ji,getElem_drop->jk,flatMap_nil->jy,drop_length->jz,dropLast_concat_getLast->jK,getElem?_append_right->jS,getLast?_eq_none_iff->j4,getLast?_eq_getElem?->j5,mem_of_elem_eq_true->kf,range_succ_eq_map->ky,take_append_drop->kZ,length_filter_le->la,getElem?_zipWith->lb,getElem?_toArray->lc,map_id->lh,getLast?_concat->lj,getElem?_mapIdx->lk,findIdx_getElem->ll,dropLast_concat->lq,getElem_of_mem->lL,getD_cons_zero->lN,filter_flatMap->lO,length_mapIdx->l0,zip_nil_left->mz,pairwise_map->mG,map_inj_left->mH,map_dropLast->mI
open Bool renaming true->ai,and_eq_true_iff->aP,false_eq_true->a9,and_eq_true->bI,false_ne_true->dz,eq_iff_iff->dE,and_false->iq,or_false->iM,not_true->iN,false_and->jP
open Exists renaming elim->al
open Option.some renaming inj->am,injEq->ke
open PySem.Heap renaming get?_push_size->av,get?_push_of_some->aO,lt_size->aR,get?_update_self->cr,size_push->cw,SameBut->cM,get?_update_other->df,size_update->gN,FlyingW->jh
open Nat renaming le_refl->aN,lt_of_lt_of_le->bg,beq->bN,eq_of_beq_eq_true->bO,lt_irrefl->bY,le_trans->ch,two_pow_pos->cj,zero_le->cx,le_of_ble_eq_true->cS,lt_of_le_of_lt->cY,ne_of_gt->cZ,mul->de,ble->dg,ne_of_lt->dj,pow_add->dk,lt_succ_self->dw,lt_or_ge->dI,mul_assoc->dJ,div_lt_iff_lt_mul->ew,mul_comm->eM,mul_div_mul_right->fI,mod_lt->fL,min_eq_left->fX,add->ge,le_of_eq->gi,mul_le_mul->gr,div->gC,lt_succ_of_lt->gH,lt_of_succ_lt->gI,sub_zero->g5,sub_eq_zero_of_le->ic,le_div_iff_mul_le->ie,ble_eq_true_of_le->ig,le_succ->iy,add_mul->iz,mul_lt_mul_right->iA,pow->iD,shiftLeft->iR,not_lt->i7,add_sub_cancel->jb,blt->jo,le_add_right->jG,mul_pos->jH,not_lt_zero->jO,mul_eq->jU,add_eq->jV,shiftRight->jX,eq_of_mul_eq_mul_right->j3,pow_lt_pow_iff_right->kq,sub->kH,mod->kI,zero_add->kM,succ_pos->kP,min_zero->kQ,le_total->kR,le_of_lt->kS,le_of_succ_le_succ->kY,pow_lt_pow_right->lI,not_succ_le_self->lJ,mul_le_mul_right->lK,mul_lt_mul_left->lY,mul_div_cancel'->lZ,not_le->mj,ble_eq->ml,beq_eq->mm
open PySem.Str renaming ofString->aS,length->fJ,ext'->iw,join->jp
open PySem.Sre renaming forSearch->bk,Seen->cv,inSet->ec,Frame->iE
open PySem.World renaming withFollow->bm
open Pure renaming pure->bG
open Int renaming fmod_eq_emod_of_nonneg->bM,fdiv_eq_ediv_of_nonneg->bX,toNat_natCast->ca,natCast_nonneg->d9,toNat_of_nonneg->eS,toNat_le_toNat->fe,ofNat->ff,zero_add->fv,mul_assoc->fQ,mul_add->fV,natCast_add->fY,mul_zero->gj,add_zero->g7,add_assoc->iT,lt_trichotomy->js,compare_eq_lt->jt,compare_eq_gt->ju,toNat_sub_toNat_neg->kz,ofNat_le->kT,lt_or_le->kU,le_of_lt->kW,neg_sub->lF,neg_add->lG
open PySem.W renaming hideAll_get->bS,of_hideAll->bU,emptyDict->cA,hideAll_none->dK,tabObj->ei,segRun_of->ez,piece_app->eC,instObj->gd,lookIn->gp,findIn->iV,segRunT->jc,kla_obj->jd,SharedT->je,methodCall_KW->jx,topFrame->kF,isNs_of_in->kJ,method_fn->lS,nsIn->l8,typeIn->me,byRow2->mf
open PySem.Sem renaming wp_mono->cg,wp_bind'->di,wp->iX,wp_cmd_standAt->ja
open PySem.Unicode renaming isLineBreak->cJ,isSpace->c9
open PySem.Heap.UpToSlots renaming of_keeps->cR
open PySem.PyData renaming eqv->da,depthAll->fR,eqvAll->gu,keyHash->g9,canLayAll0->lH
open PySem.StrLaws renaming strSub_toList->dq,lines_weight->fB,partsFrom->iQ,lsEnd->jN,glued_eq_join->ka,occBody->lW,occ_eq->ms
open PySem.Value renaming type->du,none->iJ,ref->jq,bool->jL
open PySem.Builtin.Str renaming strKind->dB,subAt->eR,occurrences->gk,tooLong->gy,partsBetween->jv,lineSpans->jI,occurrences->j9,glued->kd,strSliceIndices->km
open Array renaming toList_inj->dO,getElem?_eq_getElem->eK,toList_append->lu,length_toList->ly,forIn_toList->lP
open PyProof.Rows renaming subscriptTail->dS,pickNums->i5,Below->j6
open PySem.Heap.SameBut renaming update->ef
open PySem.Builtin.Int renaming intBits->eu
open Prod renaming ext->eU
open PySem.Float64 renaming sgn->fA,cmpInt->my
open PySem.Obj renaming mapSeq_push_plain->fF,mapSeq->fK,data_mapFields->mu
open PySem.Around renaming under_plainId->fG,frames_deeper->fH
open Classical renaming em->gz,byContradiction->jB
open LawfulBEq renaming eq_of_beq->gF
open PySem.Heap.IsSliceOf renaming new->gR
open PySem.W.KFB renaming if_not->g4
open PySem.Manifest renaming signature?->hF,find?->lX
open UInt8 renaming ofNat->ia
open PySem.Builtin.SmallTypes renaming nextOf->ii
open ForIn renaming forIn->iC
open PySem.Builtin.Range renaming rangeSize->jl,small->jJ
open PySem.Builtin.List renaming listSameRef->jm
open PySem.AutoFloatOps renaming truediv_1->jA,eq_0->jZ
open PySem.AutoIntOps renaming truediv_2->jQ
open PyProof renaming noPylong_small->j0
open Inhabited renaming default->ku
open LT renaming lt->kD
open PySem.Walks renaming tuple->kL
open ForInStep renaming yield->lr
open PySem.W.FB renaming slot_bytes_decode->lV
open PySem.W.WShape renaming hasItems->mr
open PySem PySem.W
namespace Mine
set_option compiler.extract_closed false
open Lean in
def q0q (t:String) (s:TSyntax `str):MacroM (TSyntax `tactic):=
 match (t.splitOn ";").find? (·.startsWith (s.getString ++"=")) with
 |none=>Macro.throwUnsupported
 |some b=>do
  let l ← ((b.splitOn "=").getD 1 "" |>.splitOn "|").mapM fun a=>do
   let as ← (a.splitOn " ").mapM fun x:String=>if x=="!" then `(by assumption) else if x=="_" then `(_) else if x.startsWith "?" then `(?_) else if x.startsWith "&" then `(by walk_at $(Syntax.mkStrLit (x.drop 1).toString)) else pure (mkIdent x.toName)
   let ts ← ((a.splitOn " ").filter (·.startsWith "?")).mapM fun x:String=>`(tactic| walk_at $(Syntax.mkStrLit (x.drop 1).toString))
   `(tacticSeq| refine $(Syntax.mkApp as.head! as.tail.toArray); $ts.toArray;*)
  `(tactic| first $[| $(l.toArray):tacticSeq]*)
def XX:Lean.Syntax:=Lean.Unhygienic.run `(tacticSeq|kernel_rfl)
def XZ:Lean.Syntax:=Lean.Unhygienic.run `(tacticSeq|with_unfolding_all rfl)
def X1:Lean.Syntax:=Lean.Unhygienic.run `(tacticSeq|rfl)
def X2:Lean.Syntax:=Lean.Unhygienic.run `(tacticSeq|exact .inl rfl)
def X3:Lean.Syntax:=Lean.Unhygienic.run `(tacticSeq|intro _;rfl)
def X4:Lean.Syntax:=Lean.Unhygienic.run `(tacticSeq|intro _ _;rfl)
noncomputable section
section
theorem nE {α:Type} {a:α} {C:Prop} (h:az=aa a):C:=nomatch h
theorem tJ {α:Type} {a:α} {C:Prop} (h:aa a=az):C:=nomatch h
theorem oW {C:Prop} (h:false=ai):C:=nomatch h
theorem rI {C:Prop} (h:ai=false):C:=nomatch h
namespace LA
inductive T where
 |v (i:Nat)
 |c (k:Nat)
 |o (f:Nat) (x y:T)
noncomputable abbrev T.a (x y:T):T:=.o 0 x y
noncomputable abbrev T.s (x y:T):T:=.o 1 x y
noncomputable abbrev T.m (k:Nat) (x:T):T:=.o 2 (.c k) x
noncomputable abbrev T.r (x:T) (k:Nat):T:=.o 2 x (.c k)
noncomputable abbrev T.d (x:T) (k:Nat):T:=.o 3 x (.c k)
noncomputable abbrev T.e (x:T) (k:Nat):T:=.o 4 x (.c k)
noncomputable abbrev T.n (x y:T):T:=.o 5 x y
noncomputable abbrev T.x (x y:T):T:=.o 6 x y
noncomputable abbrev T.g (x:T):T:=.o 7 x x
noncomputable abbrev T.k (x:T):T:=.o 8 x x
noncomputable abbrev T.t (x:T):T:=.o 9 x x
inductive P where
 |r (f:Nat) (x y:T)
 |a (p q:P)
 |o (p q:P)
 |n (p:P)
 |i (p q:P)
noncomputable abbrev P.l (x y:T):P:=.r 0 x y
noncomputable abbrev P.b (x y:T):P:=.r 1 x y
noncomputable abbrev P.e (x y:T):P:=.r 2 x y
noncomputable abbrev P.L (x y:T):P:=.r 3 x y
noncomputable abbrev P.B (x y:T):P:=.r 4 x y
noncomputable abbrev P.E (x y:T):P:=.r 5 x y
noncomputable abbrev gt {α:Type} [Inhabited α]:List α->Nat->α
 |[],_=>ku
 |x::_,0=>x
 |_::l,i+1=>gt l i
noncomputable abbrev W (f:Nat) (x y:Nat×Int):Nat×Int:=match f with
 |0=>(x.1+y.1,x.2+y.2)
 |1=>(x.1 - y.1,x.2 - y.2)
 |2=>(x.1*y.1,x.2*y.2)
 |3=>(x.1/y.1,x.2/y.2)
 |4=>(x.1 % y.1,x.2 % y.2)
 |5=>(min x.1 y.1,min x.2 y.2)
 |6=>(max x.1 y.1,max x.2 y.2)
 |7=>(0,-x.2)
 |8=>(0,(x.1:Int))
 |_=>(x.2.toNat,0)
noncomputable abbrev D (ρ:List Nat) (σ:List Int):T->Nat×Int
 |.v i=>(gt ρ i,gt σ i)
 |.c k=>(k,ff k)
 |.o f x y=>W f (D ρ σ x) (D ρ σ y)
abbrev dp (ρ:List Nat) (σ:List Int):P->Prop
 |.r f x y=>match f with
  |0=>(D ρ σ x).1<=(D ρ σ y).1
  |1=>(D ρ σ x).1<(D ρ σ y).1
  |2=>(D ρ σ x).1=(D ρ σ y).1
  |3=>(D ρ σ x).2<=(D ρ σ y).2
  |4=>(D ρ σ x).2<(D ρ σ y).2
  |_=>(D ρ σ x).2=(D ρ σ y).2
 |.a p q=>dp ρ σ p/\dp ρ σ q
 |.o p q=>dp ρ σ p\/dp ρ σ q
 |.n p=> ¬dp ρ σ p
 |.i p q=>dp ρ σ p->dp ρ σ q
noncomputable def same:T->T->Bool
 |.v i,.v j=>bN i j
 |.c i,.c j=>bN i j
 |.o f x y,.o g u w=>bN f g&&(same x u&&same y w)
 |_,_=>false
theorem same_eq: ∀{x y:T},same x y=ai->x=y
 |.v _,.v _,h=>congrArg T.v (bO h)
 |.c _,.c _,h=>congrArg T.c (bO h)
 |.o f x y,.o g u w,h=>by
  have h:=aP.mp h
  have q:=aP.mp h.2
  rw [bO h.1,same_eq q.1,same_eq q.2]
abbrev K:=Bool×T
def sk (k j:K):Bool:=cond k.1 (cond j.1 (same k.2 j.2) false) (cond j.1 false (same k.2 j.2))
theorem sk_eq: ∀{k j:K},sk k j=ai->k=j
 |(ai,_),(ai,_),h=>congrArg _ (same_eq h)
 |(false,_),(false,_),h=>congrArg _ (same_eq h)
abbrev M:=List (Nat×Nat×K)
noncomputable abbrev L:=Nat×Nat×M
section
variable (ρ:List Nat) (σ:List Int)
def kv (k:K):Int:=cond k.1 (D ρ σ k.2).2 ((D ρ σ k.2).1:Int)
noncomputable def dot:M->Int
 |[]=>0
 |q::p=>((q.1:Int) - (q.2.1:Int))*kv ρ σ q.2.2+dot p
def ev (l:L):Int:=(l.1:Int) - (l.2.1:Int)+dot ρ σ l.2.2
end
noncomputable def put (a b:Nat) (k:K) (p:M):M:=cond (bN a b) p ((kH a b,kH b a,k)::p)
noncomputable def ins (a b:Nat) (k:K):M->M
 |[]=>put a b k []
 |q::p=>cond (sk k q.2.2) (put (ge a q.1) (ge b q.2.1) k p) (q::ins a b k p)
noncomputable def addM:M->M->M
 |[],q=>q
 |e::p,q=>ins e.1 e.2.1 e.2.2 (addM p q)
noncomputable def mulM (k:Nat):M->M
 |[]=>[]
 |e::p=>(de k e.1,de k e.2.1,e.2.2)::mulM k p
noncomputable def negM:M->M
 |[]=>[]
 |e::p=>(e.2.1,e.1,e.2.2)::negM p
def add (p q:L):L:=(ge p.1 q.1,ge p.2.1 q.2.1,addM p.2.2 q.2.2)
def mul (k:Nat) (p:L):L:=(de k p.1,de k p.2.1,mulM k p.2.2)
def neg (p:L):L:=(p.2.1,p.1,negM p.2.2)
noncomputable def at_ (k:K):L:=(0,0,[(1,0,k)])
variable {ρ:List Nat} {σ:List Int}
theorem nrm (a b:Nat):((a - b:Nat):Int) - ((b - a:Nat):Int)=(a:Int) - (b:Int):=by
 have:=kz ((a:Int) - b)
 rwa [lF,Int.toNat_sub,Int.toNat_sub] at this
theorem aac (a b c d:Int):a+b+(c+d)=a+c+(b+d):=by rw [iT,iT,Int.add_left_comm b]
theorem asc (a b c d:Int):a+c - (b+d)=a - b+(c - d):=(congrArg (a+c+ ·) lG).trans (aac a c (-b) (-d))
theorem dot_put (a b:Nat) (k:K) (p:M):dot ρ σ (put a b k p)=((a:Int) - (b:Int))*kv ρ σ k+dot ρ σ p:=by
 unfold put
 cases q:bN a b with
 |true=>rw [bO q,Int.sub_self,Int.zero_mul,fv];rfl
 |false=>rw [<-nrm];rfl
theorem dot_ins (a b:Nat) (k:K): ∀p:M,dot ρ σ (ins a b k p)=((a:Int) - (b:Int))*kv ρ σ k+dot ρ σ p
 |[]=>dot_put ..
 |q::p=>by
  unfold ins
  cases e:sk k q.2.2 with
  |false=>show _+_=_;rw [dot_ins a b k p,dot,Int.add_left_comm]
  |true=>
   rw [cond_true,dot_put,dot,<-sk_eq e,<-iT,<-Int.add_mul,jV,jV,fY,fY,asc]
theorem dot_add: ∀p q:M,dot ρ σ (addM p q)=dot ρ σ p+dot ρ σ q
 |[],q=>(fv _).symm
 |e::p,q=>by rw [addM,dot_ins,dot_add p q,dot,iT]
theorem mulz (k a b:Nat):((de k a:Nat):Int) - ((de k b:Nat):Int)=(k:Int)*((a:Int) - (b:Int)):=by
 rw [Int.mul_sub];rfl
theorem dot_mul (k:Nat): ∀p:M,dot ρ σ (mulM k p)=(k:Int)*dot ρ σ p
 |[]=>(gj (k:Int)).symm
 |e::p=>by rw [mulM,dot,dot_mul k p,dot,fV,<-fQ,mulz]
theorem dot_neg: ∀p:M,dot ρ σ (negM p)= -dot ρ σ p
 |[]=>rfl
 |e::p=>by rw [negM,dot,dot_neg p,dot,lG,<-Int.neg_mul,lF]
theorem ev_add (p q:L):ev ρ σ (add p q)=ev ρ σ p+ev ρ σ q:=by
 show ((p.1+q.1:Nat):Int) - ((p.2.1+q.2.1:Nat):Int)+dot ρ σ (addM _ _)=((_:Int) - _+_)+(_ - _+_)
 rw [dot_add,fY,fY,asc];exact aac ..
theorem ev_mul (k:Nat) (p:L):ev ρ σ (mul k p)=(k:Int)*ev ρ σ p:=by
 show _ - _+dot ρ σ (mulM _ _)=(k:Int)*(_+_)
 rw [dot_mul,fV,<-mulz];rfl
theorem ev_neg (p:L):ev ρ σ (neg p)= -ev ρ σ p:=by
 show (p.2.1:Int) - (p.1:Int)+dot ρ σ (negM _)= -((p.1:Int) - (p.2.1:Int)+_)
 rw [dot_neg,lG,lF]
theorem ev_at (k:K):ev ρ σ (at_ k)=kv ρ σ k:=by
 show (0:Int)+((1:Int)*kv ρ σ k+0)=_
 rw [Int.one_mul,g7,fv]
def lo (b:Bool) (f:Nat) (x y:T) (p q r:L):L:=match f with
 |0=>add p q
 |1=>cond b (add p (neg q)) (at_ (b,.o 1 x y))
 |2=>match x with
  |.c k=>mul k q
  |.v i=>match y with
   |.c k=>mul k p
   |.v j=>at_ (b,.o 2 (.v i) (.v j))
   |.o g u v=>at_ (b,.o 2 (.v i) (.o g u v))
  |.o h w z=>match y with
   |.c k=>mul k p
   |.v j=>at_ (b,.o 2 (.o h w z) (.v j))
   |.o g u v=>at_ (b,.o 2 (.o h w z) (.o g u v))
 |3=>at_ (b,.o 3 x y)
 |4=>match y with
  |.c k=>add p (neg (mul k (at_ (b,.o 3 x y))))
  |.v i=>at_ (b,.o 4 x (.v i))
  |.o g u v=>at_ (b,.o 4 x (.o g u v))
 |5=>at_ (b,.o 5 x y)
 |6=>at_ (b,.o 6 x y)
 |7=>cond b (neg p) (at_ (b,.o 7 x y))
 |8=>cond b r (at_ (b,.o 8 x y))
 |n+9=>at_ (b,.o (n+9) x y)
theorem lo_ev {b:Bool} {x y:T} {p q r:L} (hp:ev ρ σ p=kv ρ σ (b,x)) (hq:ev ρ σ q=kv ρ σ (b,y)) (hr:ev ρ σ r=kv ρ σ (false,x)): ∀f,ev ρ σ (lo b f x y p q r)=kv ρ σ (b,.o f x y)
 |0=>by rw [lo,ev_add,hp,hq];cases b<;>rfl
 |1=>match b with
  |false=>ev_at _
  |true=>by rw [lo,cond_true,ev_add,ev_neg,hp,hq];rfl
 |2=>by
  have k1 (k) (h:D ρ σ y=(k,ff k)):ev ρ σ (mul k p)=kv ρ σ (b,.o 2 x y):=by
   rw [ev_mul,hp,Int.mul_comm];show _=cond b ((D ρ σ x).2*(D ρ σ y).2) (((D ρ σ x).1*(D ρ σ y).1:Nat):Int);rw [h];cases b<;>rfl
  cases x with
  |c k=>show ev ρ σ (mul k q)=_;rw [ev_mul,hq];cases b<;>rfl
  |v i=>cases y with
   |c k=>exact k1 k rfl
   |v j=>exact ev_at _
   |o g u v=>exact ev_at _
  |o h w z=>cases y with
   |c k=>exact k1 k rfl
   |v j=>exact ev_at _
   |o g u v=>exact ev_at _
 |3=>ev_at _
 |4=>match y with
  |.c k=>by
   show ev ρ σ (add p _)=_
   rw [ev_add,ev_neg,ev_mul,hp,ev_at]
   have:=Int.emod_def (kv ρ σ (b,x)) (ff k)
   cases b<;>exact this.symm
  |.v _=>ev_at _
  |.o .. =>ev_at _
 |5=>ev_at _
 |6=>ev_at _
 |7=>match b with
  |false=>ev_at _
  |true=>by rw [lo,cond_true,ev_neg,hp];rfl
 |8=>match b with
  |false=>ev_at _
  |true=>hr
 |n+9=>ev_at _
noncomputable def lin:T->Bool->L
 |.c k,_=>(k,0,[])
 |.v i,b=>at_ (b,.v i)
 |.o f x y,b=>lo b f x y (lin x b) (lin y b) (lin x false)
theorem lin_ev: ∀(t:T) (b:Bool),ev ρ σ (lin t b)=kv ρ σ (b,t)
 |.c k,b=>by cases b<;>exact (g7 _).trans (Int.sub_zero _)
 |.v i,b=>ev_at _
 |.o f x y,b=>lo_ev (lin_ev x b) (lin_ev y b) (lin_ev x false) f
abbrev R:=Bool×L
def Ok (ρ:List Nat) (σ:List Int) (r:R):Prop:=cond r.1 (ev ρ σ r.2=0) (0<=ev ρ σ r.2)
def Oks (ρ:List Nat) (σ:List Int) (rs:List R):Prop:= ∀r∈rs,Ok ρ σ r
abbrev Dn:=List (List R)
def Has (ρ:List Nat) (σ:List Int) (A:Dn):Prop:= ∃b∈A,Oks ρ σ b
def le (b:Bool) (x y:T) (k:Nat):R:=(false,add (lin y b) (neg (add (lin x b) (k,0,[]))))
def eq (b:Bool) (x y:T):R:=(ai,add (lin y b) (neg (lin x b)))
theorem le_ok {b:Bool} {x y:T} {k:Nat} (h:kv ρ σ (b,x)+k<=kv ρ σ (b,y)):Ok ρ σ (le b x y k):=by
 show 0<=ev ρ σ (add _ (neg (add _ _)))
 rw [ev_add,ev_neg,ev_add,lin_ev,lin_ev,show ev ρ σ (k,0,[])=k from g7 _]
 exact Int.sub_nonneg_of_le h
theorem eq_ok {b:Bool} {x y:T} (h:kv ρ σ (b,x)=kv ρ σ (b,y)):Ok ρ σ (eq b x y):=by
 show ev ρ σ (add _ _)=_
 rw [ev_add,ev_neg,lin_ev,lin_ev,h]
 exact Int.add_right_neg _
theorem nil_ok:Oks ρ σ []:=λz h=>nomatch h
theorem cons_ok {r:R} {rs:List R} (h:Ok ρ σ r) (q:Oks ρ σ rs):Oks ρ σ (r::rs):=λc hc=>(ao.mp hc).elim (λe=>e▸h) (q c)
theorem app_ok {a b:List R} (h:Oks ρ σ a) (q:Oks ρ σ b):Oks ρ σ (a++b):=λc hc=>(ar.mp hc).elim (h c) (q c)
theorem has1 {a:List R} (h:Oks ρ σ a):Has ρ σ [a]:=⟨a,dy,h⟩
theorem has2 {p q:Prop} {a b:List R} (h:p\/q) (ha:p->Oks ρ σ a) (hb:q->Oks ρ σ b):Has ρ σ [a,b]:=h.elim (λh=>⟨a,dy,ha h⟩) λh=>⟨b,fS _ dy,hb h⟩
theorem nat1 {a b:Nat} (h:a<b):(a:Int)+1<=b:=kT.mpr h
theorem int0 {a b:Int} (h:a<=b):a+0<=b:=(g7 a).symm▸h
theorem nat0 {a b:Nat} (h:a<=b):(a:Int)+0<=b:=int0 (kT.mpr h)
theorem sub1 {a b:Nat} (h:b<=a):((a - b+b:Nat):Int)=a:=congrArg ff (Nat.sub_add_cancel h)
theorem sub0 {a b:Nat} (h:a<b):((a - b:Nat):Int)=(0:Nat):=congrArg ff (ic (kS h))
def fact (b:Bool) (f:Nat) (x y:T):Dn:=match f with
 |0=>[[]]
 |1=>cond b [[]] [[le false y x 0,eq false (.a (.s x y) y) x],[le false x y 1,eq false (.s x y) (.c 0)]]
 |2=>[[]]
 |3=>match y with
  |.c 0=>[[]]
  |.c (k+1)=>[[le b (.m (k+1) (.d x (k+1))) x 0,le b x (.a (.m (k+1) (.d x (k+1))) (.c (k+1))) 1]]
  |.v _=>[[]]
  |.o .. =>[[]]
 |4=>[[]]
 |5=>[[le b x y 0,eq b (.n x y) x],[le b y x 1,eq b (.n x y) y]]
 |6=>[[le b x y 0,eq b (.x x y) y],[le b y x 1,eq b (.x x y) x]]
 |7=>[[]]
 |8=>[[]]
 |9=>cond b [[]] [[le ai (.c 0) x 0,eq ai (.k (.o 9 x y)) x],[le ai x (.c 0) 1,eq false (.o 9 x y) (.c 0)]]
 |_+10=>[[]]
theorem ok2 {a b:R} (h:Ok ρ σ a) (q:Ok ρ σ b):Oks ρ σ [a,b]:=cons_ok h (cons_ok q nil_ok)
theorem fact_ok (b:Bool) (x y:T): ∀f,Has ρ σ (fact b f x y)
 |0=>has1 nil_ok
 |1=>match b with
  |true=>has1 nil_ok
  |false=>has2 (dI (D ρ σ x).1 (D ρ σ y).1).symm (λh=>ok2 (le_ok (nat0 h)) (eq_ok (sub1 h))) λh=>ok2 (le_ok (nat1 h)) (eq_ok (sub0 h))
 |2=>has1 nil_ok
 |3=>match y with
  |.c 0=>has1 nil_ok
  |.c (k+1)=>
   have e:kv ρ σ (b,.m (k+1) (.d x (k+1)))=((k+1:Nat):Int)*(kv ρ σ (b,x)/((k+1:Nat):Int)):=by cases b<;>rfl
   has1 (ok2 (le_ok (e.symm▸int0 (Int.mul_ediv_self_le (Int.ofNat_ne_zero.mpr (Nat.succ_ne_zero k))))) (le_ok ((show kv ρ σ (b,.a (.m (k+1) (.d x (k+1))) (.c (k+1)))=kv ρ σ (b,.m (k+1) (.d x (k+1)))+((k+1:Nat):Int) by cases b<;>rfl).trans (congrArg (· +_) e)▸Int.lt_mul_ediv_self_add (Int.natCast_pos.mpr (kP k)))))
  |.v _=>has1 nil_ok
  |.o .. =>has1 nil_ok
 |4=>has1 nil_ok
 |5=>
  have e:kv ρ σ (b,.n x y)=min (kv ρ σ (b,x)) (kv ρ σ (b,y)):=match b with
   |true=>rfl
   |false=>Lean.Omega.Int.ofNat_min _ _
  has2 (kU (kv ρ σ (b,y)) (kv ρ σ (b,x))).symm (λh=>ok2 (le_ok (int0 h)) (eq_ok (e.trans (Int.min_eq_left h)))) λh=>ok2 (le_ok h) (eq_ok (e.trans (Int.min_eq_right (kW h))))
 |6=>
  have e:kv ρ σ (b,.x x y)=max (kv ρ σ (b,x)) (kv ρ σ (b,y)):=match b with
   |true=>rfl
   |false=>Lean.Omega.Int.ofNat_max _ _
  has2 (kU (kv ρ σ (b,y)) (kv ρ σ (b,x))).symm (λh=>ok2 (le_ok (int0 h)) (eq_ok (e.trans (Int.max_eq_right h)))) λh=>ok2 (le_ok h) (eq_ok (e.trans (Int.max_eq_left (kW h))))
 |7=>has1 nil_ok
 |8=>has1 nil_ok
 |9=>match b with
  |true=>has1 nil_ok
  |false=>has2 (kU (D ρ σ x).2 0).symm (λh=>ok2 (le_ok (int0 h)) (eq_ok (eS h))) λh=>ok2 (le_ok h) (eq_ok (congrArg ff (Int.toNat_of_nonpos (kW h))))
 |_+10=>has1 nil_ok
def fk (k:K):Dn:=match k with
 |(b,.o f x y)=>fact b f x y
 |(_,.v _)=>[[]]
 |(_,.c _)=>[[]]
theorem fk_ok: ∀k:K,Has ρ σ (fk k)
 |(b,.o f x y)=>fact_ok b x y f
 |(_,.v _)=>has1 nil_ok
 |(_,.c _)=>has1 nil_ok
def ps (k:K) (rs:List L):List L:=cond k.1 rs (at_ k::rs)
theorem ps_ok {rs:List L} (h: ∀r∈rs,0<=ev ρ σ r): ∀(k:K),∀r∈ps k rs,0<=ev ρ σ r
 |(ai,_)=>h
 |(false,_)=>λr hr=>(ao.mp hr).elim (λe=>by rw [e,ev_at];exact d9 _) (h r)
noncomputable def conj (A B:Dn):Dn:=A.flatMap λa=>B.map (a++ ·)
theorem conj_ok {A B:Dn} (h:Has ρ σ A) (q:Has ρ σ B):Has ρ σ (conj A B):=
 let ⟨a,ha,h⟩:=h;let ⟨b,hb,q⟩:=q;⟨a++b,cU.mpr ⟨a,ha,aK.mpr ⟨b,hb,rfl⟩⟩,app_ok h q⟩
theorem or_l {A B:Dn} (h:Has ρ σ A):Has ρ σ (A++B):=let ⟨a,ha,h⟩:=h;⟨a,ax _ ha,h⟩
theorem or_r {A B:Dn} (h:Has ρ σ B):Has ρ σ (A++B):=let ⟨a,ha,h⟩:=h;⟨a,aM _ ha,h⟩
def nr (s:Bool) (f:Nat) (x y:T):Dn:=match f with
 |0=>cond s [[le false x y 0]] [[le false y x 1]]
 |1=>cond s [[le false x y 1]] [[le false y x 0]]
 |2=>cond s [[eq false x y]] [[le false x y 1],[le false y x 1]]
 |3=>cond s [[le ai x y 0]] [[le ai y x 1]]
 |4=>cond s [[le ai x y 1]] [[le ai y x 0]]
 |_=>cond s [[eq ai x y]] [[le ai x y 1],[le ai y x 1]]
noncomputable def nf:P->Bool->Dn
 |.r f x y,s=>nr s f x y
 |.a p q,s=>cond s (conj (nf p s) (nf q s)) (nf p s++nf q s)
 |.o p q,s=>cond s (nf p s++nf q s) (conj (nf p s) (nf q s))
 |.n p,s=>nf p (!s)
 |.i p q,s=>cond s (nf p (!s)++nf q s) (conj (nf p (!s)) (nf q s))
theorem on {r:R} (h:Ok ρ σ r):Oks ρ σ [r]:=cons_ok h nil_ok
theorem nr_ok (x y:T): ∀f,(dp ρ σ (.r f x y)->Has ρ σ (nr ai f x y))/\(¬dp ρ σ (.r f x y)->Has ρ σ (nr false f x y))
 |0=>⟨λh=>has1 (on (le_ok (nat0 h))),λh=>has1 (on (le_ok (nat1 (Nat.lt_of_not_le h))))⟩
 |1=>⟨λh=>has1 (on (le_ok (nat1 h))),λh=>has1 (on (le_ok (nat0 (Nat.le_of_not_lt h))))⟩
 |2=>⟨λh=>has1 (on (eq_ok (congrArg ff h))),λh=>has2 (Nat.lt_or_gt_of_ne h) (λh=>on (le_ok (nat1 h))) λh=>on (le_ok (nat1 h))⟩
 |3=>⟨λh=>has1 (on (le_ok (int0 h))),λh=>has1 (on (le_ok (Int.lt_of_not_ge h)))⟩
 |4=>⟨λh=>has1 (on (le_ok h)),λh=>has1 (on (le_ok (int0 (Int.le_of_not_gt h))))⟩
 |_+5=>⟨λh=>has1 (on (eq_ok h)),λh=>has2 (Int.lt_or_gt_of_ne h) (λh=>on (le_ok h)) λh=>on (le_ok h)⟩
theorem nf_ok: ∀p:P,(dp ρ σ p->Has ρ σ (nf p ai))/\(¬dp ρ σ p->Has ρ σ (nf p false))
 |.r f x y=>nr_ok x y f
 |.a p q=>⟨λh=>conj_ok ((nf_ok p).1 h.1) ((nf_ok q).1 h.2),λh=>(gz (dp ρ σ p)).elim (λu=>or_r ((nf_ok q).2 λw=>h ⟨u,w⟩)) λu=>or_l ((nf_ok p).2 u)⟩
 |.o p q=>⟨λh=>h.elim (λu=>or_l ((nf_ok p).1 u)) λu=>or_r ((nf_ok q).1 u),λh=>conj_ok ((nf_ok p).2 λu=>h (.inl u)) ((nf_ok q).2 λu=>h (.inr u))⟩
 |.n p=>⟨λh=>(nf_ok p).2 h,λh=>(nf_ok p).1 (Classical.not_not.mp h)⟩
 |.i p q=>⟨λh=>(gz (dp ρ σ p)).elim (λu=>or_r ((nf_ok q).1 (h u))) λu=>or_l ((nf_ok p).2 u),λh=>conj_ok ((nf_ok p).1 (jB λu=>h λw=>absurd w u)) ((nf_ok q).2 λw=>h λz=>w)⟩
noncomputable def gcds:M->Nat
 |[]=>0
 |a::l=>Nat.gcd (ge a.1 a.2.1) (gcds l)
noncomputable def nrmd:M->Bool
 |[]=>ai
 |a::l=>cond (bN (de a.1 a.2.1) 0) (nrmd l) false
noncomputable def quo (g:Nat):M->M
 |[]=>[]
 |a::l=>(gC a.1 g,gC a.2.1 g,a.2.2)::quo g l
theorem dot_quo {g:Nat}: ∀{p:M},g∣gcds p->nrmd p=ai->(g:Int)*dot ρ σ (quo g p)=dot ρ σ p
 |[],_,_=>gj _
 |a::l,h,q=>by
  unfold nrmd at q
  cases e:bN (de a.1 a.2.1) 0 with
  |false=>rw [e] at q;exact oW q
  |true=>
   rw [e] at q
   have h1:=Nat.dvd_trans h (Nat.gcd_dvd_left ..)
   have h2:g∣a.1/\g∣a.2.1:=by
    rcases Nat.mul_eq_zero.mp (bO e) with z|z
    ·rw [jV,z,kM] at h1;exact ⟨z▸Nat.dvd_zero g,h1⟩
    ·rw [jV,z,Nat.add_zero] at h1;exact ⟨h1,z▸Nat.dvd_zero g⟩
   rw [quo,dot,dot,fV,dot_quo (Nat.dvd_trans h (Nat.gcd_dvd_right ..)) q,<-fQ,<-mulz,show de g (gC a.1 g)=a.1 from lZ h2.1,show de g (gC a.2.1 g)=a.2.1 from lZ h2.2]
def fl (p:L):Int:=((p.1:Int) - (p.2.1:Int))/(gcds p.2.2:Int)
def tight (p:L):L:=cond (dg (gcds p.2.2) 1) p (cond (nrmd p.2.2) ((fl p).toNat,(-fl p).toNat,quo (gcds p.2.2) p.2.2) p)
theorem tight_ok {p:L} (h:0<=ev ρ σ p):0<=ev ρ σ (tight p):=by
 unfold tight
 cases e:dg (gcds p.2.2) 1 with
 |true=>exact h
 |false=>
  cases e2:nrmd p.2.2 with
  |false=>exact h
  |true=>
   have hg:(gcds p.2.2:Int)≠0:=λq=>oW ((Int.ofNat_inj.mp q▸e:dg 0 1=false).symm)
   show 0<=((fl p).toNat:Int) - ((-fl p).toNat:Int)+dot ρ σ (quo _ p.2.2)
   rw [kz,fl,<-Int.add_mul_ediv_left _ _ hg,dot_quo (Nat.dvd_refl _) e2]
   exact Int.ediv_nonneg h (d9 _)
noncomputable def coef (k:K):M->Nat×Nat
 |[]=>(0,0)
 |q::p=>cond (sk k q.2.2) (q.1,q.2.1) (coef k p)
def Pos (ρ:List Nat) (σ:List Int) (rs:List L):Prop:= ∀r∈rs,0<=ev ρ σ r
def comb (k:K) (p q:L):L:=tight (add (mul (coef k q.2.2).2 p) (mul (coef k p.2.2).1 q))
noncomputable def triv (p:L):Bool:=match p.2.2 with
 |[]=>jo p.1 p.2.1
 |_=>ai
noncomputable def nz (n:Nat):Bool:=cond (bN n 0) false ai
noncomputable def elim (k:K) (rs:List L):List L:=rs.filter (λr=>bN (ge (coef k r.2.2).1 (coef k r.2.2).2) 0)++
 ((rs.filter λr=>nz (coef k r.2.2).1).flatMap λp=>(rs.filter λr=>nz (coef k r.2.2).2).map (comb k p)).filter triv
theorem elim_ok {k:K} {rs:List L} (h:Pos ρ σ rs):Pos ρ σ (elim k rs):=λr hr=>by
 rcases ar.mp hr with hr|hr
 ·exact h r (eX.mp hr).1
 ·obtain ⟨p,hp,hr⟩:=cU.mp (eX.mp hr).1
  obtain ⟨q,hq,e⟩:=aK.mp hr
  rw [<-e]
  refine tight_ok ?_
  rw [ev_add,ev_mul,ev_mul]
  exact Int.add_nonneg (Int.mul_nonneg (d9 _) (h p (eX.mp hp).1)) (Int.mul_nonneg (d9 _) (h q (eX.mp hq).1))
noncomputable def bad (p:L):Bool:=match p.2.2 with
 |[]=>jo p.1 p.2.1
 |_=>false
theorem bad_no {p:L} (h:bad p=ai) (q:0<=ev ρ σ p):False:=by
 unfold bad at h
 split at h
 ·next e=>rw [ev,e,dot,g7] at q;exact bY _ (bg (cS h) (kT.mp (Int.le_of_sub_nonneg q)))
 ·exact oW h
noncomputable def fst:List L->Option K
 |[]=>az
 |r::l=>match r.2.2 with
  |[]=>fst l
  |q::_=>aa q.2.2
noncomputable def fm:Nat->List L->Bool
 |0,_=>false
 |n+1,rs=>cond (rs.any bad) ai (match fst rs with
  |none=>false
  |some k=>fm n (elim k rs))
theorem fm_no: ∀{n:Nat} {rs:List L},fm n rs=ai->Pos ρ σ rs->False
 |n+1,rs,h,q=>by
  unfold fm at h
  cases e:rs.any bad with
  |true=>
   obtain ⟨r,hr,h⟩:=List.any_eq_true.mp e
   exact bad_no h (q r hr)
  |false=>
   rw [e,cond_false] at h
   split at h
   ·exact oW h
   ·exact fm_no h (elim_ok q)
def sb (e:L) (k:K) (r:L):L:=add (add (mul (coef k r.2.2).1 e) (mul (coef k r.2.2).2 (neg e))) r
theorem sb_ev {e:L} {k:K} {r:L} (h:ev ρ σ e=0):ev ρ σ (sb e k r)=ev ρ σ r:=by
 rw [sb,ev_add,ev_add,ev_mul,ev_mul,ev_neg,h,Int.neg_zero,gj,gj,fv,fv]
noncomputable def piv (e:L):M->Option (L×K)
 |[]=>az
 |q::p=>cond (bN q.1 1) (aa (neg e,q.2.2)) (cond (bN q.2.1 1) (aa (e,q.2.2)) (piv e p))
theorem piv_ok {e:L} (h:ev ρ σ e=0): ∀{p:M} {q:L×K},piv e p=aa q->ev ρ σ q.1=0
 |a::p,q,k=>by
  unfold piv at k
  cases e1:bN a.1 1 with
  |true=>rw [e1] at k;cases k;exact (ev_neg e).trans (by rw [h];rfl)
  |false=>
   rw [e1] at k
   cases e2:bN a.2.1 1 with
   |true=>rw [e2] at k;cases k;exact h
   |false=>rw [e2] at k;exact piv_ok h k
noncomputable def gs:Nat->List L->List L->Bool
 |0,_,_=>false
 |n+1,[],rs=>fm n (rs.map tight)
 |n+1,e::es,rs=>match piv e e.2.2 with
  |some q=>gs n (es.map (sb q.1 q.2)) (rs.map (sb q.1 q.2))
  |none=>gs n es (e::neg e::rs)
theorem gs_no: ∀{n:Nat} {es rs:List L},gs n es rs=ai->(∀e∈es,ev ρ σ e=0)->Pos ρ σ rs->False
 |n+1,[],rs,h,_,q=>fm_no h λr hr=>by
  obtain ⟨u,hu,rfl⟩:=aK.mp hr
  exact tight_ok (q u hu)
 |n+1,e::es,rs,h,k,q=>by
  have he:=k e dy
  unfold gs at h
  split at h
  ·next e1=>
   have he:=piv_ok he e1
   refine gs_no h (λr hr=> ?_) λr hr=> ?_
   ·obtain ⟨u,hu,rfl⟩:=aK.mp hr
    rw [sb_ev he,k u (fS _ hu)]
   ·obtain ⟨u,hu,rfl⟩:=aK.mp hr
    rw [sb_ev he];exact q u hu
  ·refine gs_no h (λr hr=>k r (fS _ hr)) λr hr=> ?_
   rcases ao.mp hr with rfl|hr
   ·exact Int.le_of_eq he.symm
   ·rcases ao.mp hr with rfl|hr
    ·rw [ev_neg,he];exact Int.le_refl _
    ·exact q r hr
noncomputable def newM (done:List K):M->Option K
 |[]=>az
 |q::p=>cond (done.any (sk q.2.2)) (newM done p) (aa q.2.2)
noncomputable def srch:Nat->List K->List R->List L->List L->Bool
 |0,_,_,_,_=>false
 |n+1,done,[],es,rs=>gs 50 es rs
 |n+1,done,r::td,es,rs=>match newM done r.2.2.2 with
  |some k=>(fk k).all λb=>srch n (k::done) (b++r::td) es (ps k rs)
  |none=>cond r.1 (srch n done td (r.2::es) rs) (srch n done td es (r.2::rs))
set_option tactic.hygienic true in
theorem srch_no: ∀{n:Nat} {done:List K} {td:List R} {es rs:List L},srch n done td es rs=ai->Oks ρ σ td->(∀e∈es,ev ρ σ e=0)->Pos ρ σ rs->False
 |n+1,done,[],es,rs,h,_,k,q=>gs_no h k q
 |n+1,done,r::td,es,rs,h,o,k,q=>by
  unfold srch at h
  split at h
  ·next j _=>
   obtain ⟨b,hb,r⟩:=fk_ok (ρ:=ρ) (σ:=σ) j
   exact srch_no (br.mp h b hb) (app_ok r o) k (ps_ok q j)
  ·have o2:Oks ρ σ td:=λr hr=>o r (fS _ hr)
   have o1:=o r dy
   obtain ⟨b,r⟩:=r
   cases b with
   |true=>exact srch_no h o2 (λe he=>(ao.mp he).elim (λz=>z▸o1) (k e)) q
   |false=>exact srch_no h o2 k λe he=>(ao.mp he).elim (λz=>z▸o1) (q e)
def chk (p:P):Bool:=(nf p false).all λb=>srch 100 [] b [] []
theorem chk_ok {p:P} (h:chk p=ai):dp ρ σ p:=jB λq=>
 let ⟨b,hb,r⟩:=(nf_ok p).2 q;srch_no (br.mp h b hb) r (λz h=>nomatch h) λz h=>nomatch h
end LA
noncomputable abbrev xA:LA.T:=.v 0
noncomputable abbrev xB:LA.T:=.v 1
noncomputable abbrev xC:LA.T:=.v 2
noncomputable abbrev xD:LA.T:=.v 3
noncomputable abbrev xE:LA.T:=.v 4
noncomputable abbrev xF:LA.T:=.v 5
noncomputable abbrev xG:LA.T:=.v 6
noncomputable abbrev xH:LA.T:=.v 7
noncomputable abbrev xI:LA.T:=.c 1
noncomputable abbrev xJ:LA.T:=.c 0
noncomputable abbrev xK:LA.T:=.c 4
noncomputable abbrev xL:LA.T:=.c 16777216
noncomputable abbrev xM:LA.T:=.c 2
noncomputable abbrev xN:LA.T:=.c 5
noncomputable abbrev xO:LA.T:=.c 3
noncomputable abbrev xP:LA.T:=.c 100
noncomputable abbrev xQ:LA.T:=.c 1000
noncomputable abbrev xR:LA.T:=.c 128
noncomputable abbrev xS:LA.T:=.c 9223372036854775808
noncomputable abbrev M9:LA.T:=.c 4611686018427387904
theorem mK (p:LA.P) (ρ:List Nat) (σ:List Int:=[]) (h:autoParam (LA.chk p=ai) XX):LA.dp ρ σ p:=LA.chk_ok h
end
section
open PySem.Float64
noncomputable def th (c n a:Nat) (k:Nat->Nat->Nat):Nat:=cond (dg (iD 2 c) n) (k (jX n c) (ge a c)) (k n a)
def lg (n:Nat):Nat:=th 1024 n 0 λn a=>th 512 n a λn a=>th 256 n a λn a=>th 128 n a λn a=>th 64 n a λn a=>th 32 n a λn a=>th 16 n a λn a=>th 8 n a λn a=>th 4 n a λn a=>th 2 n a λn a=>th 1 n a λz a=>a
def I9 (c:Nat) (k:Nat->Nat->Nat):Prop:=(∀a,k 0 a=a)/\ ∀n a,0<n->n<2^c-> ∃j,k n a=a+j/\2^j<=n/\n<2^(j+1)
theorem tt (h:I9 c k):I9 (c+c) (λn a=>th c n a k):=by
 have z:dg (iD 2 c) 0=false:=by
  cases e:dg (iD 2 c) 0 with
  |false=>rfl
  |true=>have:=cS e;have:0<2^c:=cj c;exact absurd (cS e) (by exact (mK (.i (.b xJ xA) (.n (.l xA xJ))) [_]) this)
 refine ⟨λa=> ?_,λn a h0 hn=> ?_⟩
 ·show cond _ _ _=_
  exact z▸(h.1 a)
 ·show ∃j,cond _ _ _=_/\_
  cases e:dg (iD 2 c) n with
  |true=>
   have hl:2^c<=n:=cS e
   have hs:jX n c=n/2^c:=Nat.shiftRight_eq_div_pow n c
   have h1:0<n/2^c:=Nat.div_pos hl (cj c)
   have h2:n/2^c<2^c:=by rw [ew (cj c),<-dk];exact hn
   obtain ⟨j,e1,e2,e3⟩:=h.2 _ (ge a c) h1 h2
   refine ⟨c+j,?_,?_,?_⟩
   ·show k (jX n c) (ge a c)=_
    rw [hs,e1];exact mK (.e (.a (.a xA xB) xC) (.a xA (.a xB xC))) [_,_,_]
   ·rw [dk,eM]
    exact (ie (cj c)).mp e2
   ·rw [show c+j+1=j+1+c by exact mK (.e (.a (.a xA xB) xI) (.a (.a xB xI) xA)) [_,_],dk]
    exact (ew (cj c)).mp e3
  |false=>
   have hl:n<2^c:=by
    have: ¬2^c<=n:=λq=>by rw [show dg (iD 2 c) n=ai from ig q] at e;exact rI e
    exact (mK (.i (.n (.l xB xA)) (.b xA xB)) [_,_]) this
   exact h.2 n a h0 hl
theorem Nz:I9 2048 (λn a=>th 1024 n a λn a=>th 512 n a λn a=>th 256 n a λn a=>th 128 n a λn a=>th 64 n a λn a=>th 32 n a λn a=>th 16 n a λn a=>th 8 n a λn a=>th 4 n a λn a=>th 2 n a λn a=>th 1 n a λz a=>a):=by
 have b:I9 1 (λz a=>a):=⟨λz=>rfl,λn a h0 h1=>⟨0,rfl,by exact (mK (.i (.b xJ xA) (.l xI xA)) [_]) h0,by omega⟩⟩
 exact tt (c:=1024) (tt (c:=512) (tt (c:=256) (tt (c:=128) (tt (c:=64) (tt (c:=32) (tt (c:=16) (tt (c:=8) (tt (c:=4) (tt (c:=2) (tt (c:=1) b))))))))))
theorem Hx (h0:0<n) (h:n<2^2048):2^lg n<=n/\n<2^(lg n+1):=by
 obtain ⟨j,e,a,b⟩:=Nz.2 n 0 h0 h
 have:lg n=j:=by exact (show lg n=0+j from e)▸(mK (.e (.a xJ xA) xA) [_])
 exact this▸(⟨a,b⟩)
theorem HG:lg 0=0:=Nz.1 0
theorem So (h:n<2^2048) (a:2^j<=n) (b:n<2^(j+1)):lg n=j:=by
 have h0:0<n:=bg (cj j) a
 obtain ⟨c,d⟩:=Hx h0 h
 have x: ∀{p q:Nat},2^p<2^(q+1)->p<=q:=λ{p q} z=>Nat.le_of_lt_succ ((kq (by decide)).mp z)
 have:=x (cY a d)
 have:=x (cY c b)
 exact (mK (.i (.l xB xA) (.i (.l xA xB) (.e xA xB))) [_,_]) (by assumption) this
def rn (n d:Nat):Nat:=
 let k:=kH (lg (gC n d)) 52
 let D:=iR d k
 let q:=gC n D
 let r:=de 2 (kI n D)
 iR (ge q (cond (dg r D) (cond (bN r D) (kI q 2) 0) 1)) k
theorem vS (n d:Nat):rn n d=halfEven n (d*2^(lg (n/d) - 52))*2^(lg (n/d) - 52):=by
 show iR _ _=_
 have e: ∀a b,iR a b=a*2^b:=λa b=>Nat.shiftLeft_eq a b
 rw [e,e]
 congr 1
 generalize d*2^(lg (n/d) - 52)=D
 unfold halfEven
 show n/D+cond (dg (2*(n % D)) D) (cond (bN (2*(n % D)) D) ((n/D) % 2) 0) 1=_
 simp only
 have hb:dg (2*(n % D)) D=decide (2*(n % D)<=D):=by
  rw [dE,ml,decide_eq_true_iff]
 have hq:bN (2*(n % D)) D=decide (2*(n % D)=D):=by
  rw [dE,mm,decide_eq_true_iff]
 rw [hb,hq]
 by_cases h:2*(n % D)<=D
 ·by_cases h2:2*(n % D)=D
  ·have:=Nat.mod_two_eq_zero_or_one (n/D)
   rcases this with h3|h3<;>simp [h,h2,h3]
  ·have: ¬D<2*(n % D):=by exact (mK (.i (.l (.m 2 xB) xA) (.n (.b xA (.m 2 xB)))) [_,_]) h
   simp [h,h2,this]
 ·have:D<2*(n % D):=by exact (mK (.i (.n (.l (.m 2 xB) xA)) (.b xA (.m 2 xB))) [_,_]) h
  simp [h,this]
theorem BD (hb:0<b) (hd:0<d) (h:a*d=n*b):halfEven a b=halfEven n d:=by
 have hq:a/b=n/d:=by
  have h1:=fI a b hd
  have h2:=fI n d hb
  rw [<-h1,<-h2,h,eM d b]
 have hr:(a % b)*d=(n % d)*b:=by
  have h1:=Nat.div_add_mod a b
  have h2:=Nat.div_add_mod n d
  have h3:(b*(a/b)+a % b)*d=(d*(n/d)+n % d)*b:=by rw [h1,h2];exact h
  rw [iz,iz,hq] at h3
  have h4:b*(n/d)*d=d*(n/d)*b:=by ac_rfl
  exact (mK (.i (.e (.a xC xA) (.a xD xB)) (.i (.e xC xD) (.e xA xB))) [_,_,_,_]) h3 h4
 have Ux:(2*(a % b)>b)=(2*(n % d)>d):=by
  apply propext
  have l:2*(a % b)>b↔2*(a % b)*d>b*d:=(iA hd).symm
  have r:2*(n % d)>d↔2*(n % d)*b>d*b:=(iA hb).symm
  rw [l,r,dJ,dJ,hr,eM b d]
 have heq:(2*(a % b)=b)=(2*(n % d)=d):=by
  apply propext
  have l:2*(a % b)=b↔2*(a % b)*d=b*d:=⟨λq=>by rw [q],λq=>j3 hd q⟩
  have r:2*(n % d)=d↔2*(n % d)*b=d*b:=⟨λq=>by rw [q],λq=>j3 hb q⟩
  rw [l,r,dJ,dJ,hr,eM b d]
 have Va:(2*(a % b)==b)=(2*(n % d)==d):=by
  rw [dE,beq_iff_eq,beq_iff_eq,heq]
 unfold halfEven
 simp only [Ux,Va,hq]
noncomputable def U:Nat:=2^1074
theorem DT:0<U:=cj _
theorem TH {p:Int} (h: -1074<=p) (hk:(p+1074).toNat=k) (hz: -p>=0):1074=(-p).toNat+k:=by exact (mK (.i (.L (.g (.c 1074)) xA) (.i (.e (.t (.a xA (.c 1074))) xA) (.i (.L xJ (.g xA)) (.e (.c 1074) (.a (.t (.g xA)) xA))))) [_] [_]) h hk hz
theorem Rm {p:Int} (hk:(p+1074).toNat=k) (hz: ¬ -p>=0):k=1074+(- -p).toNat:=by exact (mK (.i (.e (.t (.a xA (.c 1074))) xA) (.i (.n (.L xJ (.g xA))) (.e xA (.a (.c 1074) (.t (.g (.g xA))))))) [_] [_]) hk hz
theorem T3 {p:Int} (hk:(p+1074).toNat=k) (h:p= -1074):k=0:=by exact (mK (.i (.e (.t (.a xA (.c 1074))) xA) (.i (.E xA (.g (.c 1074))) (.e xA xJ))) [_] [_]) hk h
theorem QR {a b:Nat} (h:min a b<a):min a b=b:=by exact (mK (.i (.b (.n xA xB) xA) (.e (.n xA xB) xB)) [_,_]) h
theorem TM {W a b c:Nat} (h1:a<b) (h2:b<c) (d1:W - a+(a - W)<=W - b+(b - W)) (d2:W - c+(c - W)<=W - b+(b - W)):False:=(kR W b).elim (λh=>(mK (.i (.l xA xB) (.i (.b xB xC) (.n (.l (.a (.s xA xC) (.s xC xA)) (.a (.s xA xB) (.s xB xA)))))) [_,_,_]) h h2 d2) λh=>(mK (.i (.l xB xA) (.i (.b xC xB) (.n (.l (.a (.s xA xC) (.s xC xA)) (.a (.s xA xB) (.s xB xA)))))) [_,_,_]) h h1 d1
theorem OV (h:x<y) (e1:x % 2=0) (e2:y % 2=0):x+1<y:=by exact (mK (.i (.b xA xB) (.i (.e (.e xA 2) xJ) (.i (.e (.e xB 2) xJ) (.b (.a xA xI) xB)))) [_,_]) h e1 e2
theorem Pp (hd:0<d) (Ux:roundMag n d<infMag) (hs:n*U/d<2^2048):V (roundMag n d)=rn (n*U) d:=by
 by_cases hn:n=0
 ·subst hn
  have:roundMag 0 d=0:=by unfold roundMag;rfl
  rw [this,vS]
  simp [V,HG,halfEven]
 ·obtain ⟨p1,p2⟩:=place_spec hn hd
  have p3:=place_ge n d
  rw [roundMag_eq' hn] at Ux ⊢
  generalize hA:(shift n d (-(place n d))).1=a at*
  generalize hB:(shift n d (-(place n d))).2=b at*
  have hb:0<b:=hB▸shift_pos n d _ hd
  generalize hK:(place n d+1074).toNat=k at*
  have WS:a*(d*2^k)=n*U*b:=by
   unfold shift at hA hB
   unfold U
   split at hA<;>rename_i hz
   ·rw [if_pos hz] at hB
    dsimp only at hA hB
    subst hA hB
    have:1074=(-place n d).toNat+k:=TH p3 hK hz
    rw [this,dk]
    ac_rfl
   ·rw [if_neg hz] at hB
    dsimp only at hA hB
    subst hA hB
    have:k=1074+(- -place n d).toNat:=Rm hK hz
    rw [this,dk]
    ac_rfl
  generalize U=u at hs WS ⊢
  have hq1:halfEven a b<=2^53:=by
   have:=halfEven_le' a b hb
   have:a/b<2^53:=(ew hb).mpr p1
   omega
  have hq2:2^52<=halfEven a b\/k=0:=by
   rcases p2 with p2|p2
   ·exact .inr (T3 hK p2)
   ·left
    have h1:2^52<=a/b:=(ie hb).mpr p2
    have:a/b<=halfEven a b:=by unfold halfEven;simp only;split<;>(first|exact mK (.l xA (.a xA xI)) [_]|exact mK (.l xA xA) [_])
    omega
  have hmin:min infMag (k*2^52+halfEven a b)=k*2^52+halfEven a b:=QR Ux
  rw [hmin,V_at hq1 hq2,vS]
  have hD:0<d*2^k:=jH hd (cj k)
  have hk:lg (n*u/d) - 52=k:=by
   have up:n*u/d<2^(52+k+1):=by
    rw [ew hd]
    refine Nat.lt_of_mul_lt_mul_right (a:=b) ?_
    rw [<-WS]
    have h3:=(iA hD).mpr p1
    have h4:2^53*b*(d*2^k)=2^(52+k+1)*d*b:=by
     rw [show 52+k+1=53+k by exact mK (.e (.a (.a (.c 52) xA) xI) (.a (.c 53) xA)) [_],dk]
     generalize 2^53=z
     generalize 2^k=z'
     ac_rfl
    rw [h4] at h3
    exact h3
   by_cases h0:2^52*b<=a
   ·have lo:2^(52+k)<=n*u/d:=by
     rw [ie hd]
     refine Nat.le_of_mul_le_mul_right (c:=b) ?_ hb
     rw [<-WS]
     have h3:=lK (d*2^k) h0
     have h4:2^52*b*(d*2^k)=2^(52+k)*d*b:=by
      rw [dk]
      generalize 2^52=z
      generalize 2^k=z'
      ac_rfl
     rw [h4] at h3
     exact h3
    exact (So hs lo up)▸(mK (.e (.s (.a (.c 52) xA) (.c 52)) xA) [_])
   ·have hk0:k=0:=by rcases p2 with p2|p2<;>omega
    subst hk0
    by_cases hz:n*u/d=0
    ·rw [hz,HG]
    ·obtain ⟨l1,l2⟩:=Hx (Nat.pos_of_ne_zero hz) hs
     have:lg (n*u/d)<53:=by
      have:2^lg (n*u/d)<2^53:=cY l1 (by simpa using up)
      exact (kq (by decide)).mp this
     exact ic (Nat.le_of_lt_succ this)
  rw [hk,BD hb hD WS]
theorem EA {neg:Bool} (h:Right r neg W D) (hD:0<D) (hs:W/D<2^2048): ∃t,r=pack neg t/\t<infMag/\V t=rn W D:=by
 obtain ⟨t,e,VA,hov,hr⟩:=h
 have UW: ¬D*((2^54 - 1)*2^2045)<=2*W:=by
  intro q
  have h1:W<D*2^2048:=by rw [eM];exact (ew hD).mp hs
  have h2:(2:Nat)^2048*2<=(2^54 - 1)*2^2045:=by decide+kernel
  have h3:=Nat.mul_le_mul_left D h2
  have h4:D*(2^2048*2)=2*(D*2^2048):=by generalize (2:Nat)^2048=z;rw [<-dJ,eM]
  rw [h4] at h3
  have h5:=ch h3 q
  omega
 have Ux:t<infMag:=by
  rcases dI t infMag with q|q
  ·exact q
  ·exact absurd (hov.mp (by exact (mK (.i (.l xA xB) (.i (.l xB xA) (.e xA xB))) [_,_]) VA q)) UW
 refine ⟨t,e,Ux,?_⟩
 have hDU:0<D*U:=jH hD DT
 have hW:W*2^1074*D=W*(D*U):=by unfold U;rw [dJ,eM (2^1074) D]
 have hlt0:roundMag W (D*U)<infMag:=by
  rcases dI (roundMag W (D*U)) infMag with q|q
  ·exact q
  ·have hm:roundMag W (D*U)<=infMag:=by rw [roundMag_min];exact mK (.l (.n xA xB) xA) [_,_]
   exact absurd ((over_of hDU hW hD).mp (by exact (mK (.i (.l xB xA) (.i (.l xA xB) (.e xA xB))) [_,_]) q hm)) UW
 have W9:W*U/(D*U)=W/D:=fI W D DT
 have hV:=Pp hDU hlt0 (by exact W9▸hs)
 have hrn:rn (W*U) (D*U)=rn W D:=by
  rw [vS,vS,W9]
  congr 1
  refine BD (jH hDU (cj _)) (jH hD (cj _)) ?_
  generalize 2^(lg (W/D) - 52)=z
  generalize U=u
  ac_rfl
 rw [hrn] at hV
 rw [<-hV]
 by_cases Uu:V t=V (roundMag W (D*U))
 ·exact Uu
 ·exfalso
  have r1:=hr Ux
  have r2:=right_of hDU hW hD hlt0
  generalize roundMag W (D*U)=t0 at*
  have a1:=(r1 t0).1
  have a2:=(r2 t).1
  have ev1:=(r1 t0).2 (λq=>Uu q.symm) (by exact (mK (.i (.l xA xB) (.i (.l xB xA) (.e xA xB))) [_,_]) a1 a2)
  have ev2:=(r2 t).2 Uu (by exact (mK (.i (.l xB xA) (.i (.l xA xB) (.e xA xB))) [_,_]) a1 a2)
  have qx: ∀x y:Nat,x<y->x % 2=0->y % 2=0->dist W (D*V x)<=dist W (D*V (x+1))->dist W (D*V y)<=dist W (D*V (x+1))->dist W (D*V x)=dist W (D*V y)->False:=by
   intro x y hxy e1 e2 d1 d2 d3
   have v1:=(lY hD).mpr (V_succ x)
   exact TM v1 ((lY hD).mpr (V_lt (t:=x+1) (t':=y) (OV hxy e1 e2))) d1 d2
  rcases dI t t0 with q|q
  ·exact qx t t0 q ev1 ev2 (r1 _).1 (r2 _).1 (by exact (mK (.i (.l xA xB) (.i (.l xB xA) (.e xA xB))) [_,_]) a1 a2)
  ·have:t0≠t:=λz=>Uu (z▸rfl)
   exact qx t0 t (by exact (mK (.i (.l xA xB) (.i (.n (.e xA xB)) (.b xA xB))) [_,_]) q this) ev2 ev1 (r2 _).1 (r1 _).1 (by exact (mK (.i (.l xB xA) (.i (.l xA xB) (.e xA xB))) [_,_]) a1 a2)
structure Fx where
 s:Bool
 m:Nat
 deriving Inhabited
def Fn (x:UInt64):Prop:= ∃a k e,decode x= .fin a k e
def FR (f:Fx) (x:UInt64):Prop:=Fn x/\val x=sgn f.s f.m
noncomputable def BB:Nat:=2^1500
def wz (s:Bool) (W D:Nat):Option Fx:=cond (dg (gC W D) BB) (aa ⟨s,rn W D⟩) az
theorem tf (h:Right r t W D) (hD:0<D) (e:wz s W D=aa f) (ht:t=s\/(W=0)):FR f r:=by
 unfold wz at e
 cases hb:dg (gC W D) BB with
 |false=>rw [hb] at e;exact nE e
 |true=>
  rw [hb] at e
  obtain rfl:=am e
  have h1:W/D<=BB:=cS hb
  have h2:BB<2^2048:=by exact lI (by decide) (by decide)
  obtain ⟨t',rfl,lt,hv⟩:=EA h hD (cY h1 h2)
  obtain ⟨m,k,hd,_⟩:=decode_pack t lt
  refine ⟨⟨_,_,_,hd⟩,?_⟩
  rw [val_pack t lt,hv]
  rcases ht with rfl|rfl
  ·rfl
  ·have:rn 0 D=0:=by rw [vS];simp [halfEven]
   rw [this];cases t<;>cases s<;>rfl
theorem AU (b:Bool):Fn (zero b)/\val (zero b)=0:=by
 have h0:0<infMag:=by decide
 obtain ⟨m,k,hd,_⟩:=decode_pack b h0
 refine ⟨⟨_,_,_,hd⟩,?_⟩
 show val (pack b 0)=0
 rw [val_pack b h0]
 cases b<;>decide
theorem N6 (D:Nat):rn 0 D=0:=by rw [vS];simp [halfEven]
theorem MM (e:wz s 0 D=aa f) (x:UInt64) (h:Fn x) (hv:val x=0):FR f x:=by
 unfold wz at e
 cases hb:dg (gC 0 D) BB with
 |false=>rw [hb] at e;exact nE e
 |true=>
  rw [hb] at e
  obtain rfl:=am e
  refine ⟨h,?_⟩
  rw [hv,N6]
  cases s<;>rfl
def Ce (f g:Fx):Option Fx:=match f,g with
 |⟨a,m⟩,⟨b,k⟩=>cond (cond a b (cond b false ai)) (wz a (ge m k) 1) (cond (dg k m) (wz a (kH m k) 1) (wz b (kH k m) 1))
noncomputable def MD (f:Fx):Fx:=match f with|⟨a,m⟩=>⟨cond a false ai,m⟩
def LB (f g:Fx):Option Fx:=Ce f (MD g)
def Mg (f g:Fx):Option Fx:=match f,g with
 |⟨a,m⟩,⟨b,k⟩=>wz (cond a (cond b false ai) b) (de m k) U
def y4 (f g:Fx):Option Fx:=match f,g with
 |⟨a,m⟩,⟨b,k⟩=>cond (bN k 0) az (wz (cond a (cond b false ai) b) (de m U) k)
def D5 (f:Fx):Option Fx:=match f with
 |⟨a,m⟩=>match wz a (kI m U) 1 with
  |none=>az
  |some ⟨_,0⟩=>aa ⟨false,0⟩
  |some ⟨false,r⟩=>aa ⟨false,r⟩
  |some ⟨ai,r⟩=>Ce ⟨ai,r⟩ ⟨false,U⟩
noncomputable def vh (f g:Fx):Bool:=match f,g with
 |⟨false,m⟩,⟨false,k⟩=>jo m k
 |⟨ai,m⟩,⟨ai,k⟩=>jo k m
 |⟨ai,m⟩,⟨false,k⟩=> !(bN m 0&&bN k 0)
 |⟨false,_⟩,⟨ai,_⟩=>false
noncomputable def tw (f g:Fx):Bool:=match f,g with
 |⟨a,m⟩,⟨b,k⟩=>bN m k&&(cond a b (cond b false ai)||Nat.beq m 0)
def HR (f:Fx):Option Nat:=match f with
 |⟨false,m⟩=>aa (gC m U)
 |⟨ai,_⟩=>az
def QW (i:Int):Option Fx:=match i with
 |.ofNat n=>wz false (de n U) 1
 |.negSucc n=>wz ai (de (Nat.succ n) U) 1
theorem xt (hx:FR f x) (hy:FR g y) (e:Ce f g=aa r):FR r (add x y):=by
 obtain ⟨⟨a',m',e',Vg⟩,Xb⟩:=hx
 obtain ⟨⟨b',k',f',V1⟩,hy2⟩:=hy
 obtain ⟨h0,h1⟩:=add_right Vg V1
 obtain ⟨a,m⟩:=f
 obtain ⟨b,k⟩:=g
 dsimp only at Xb hy2
 rw [Xb,hy2] at h0 h1
 have UK: ∀(s:Bool) (W:Nat),wz s W 1=aa r->sgn a m+sgn b k=sgn s W->FR r (add x y):=by
  intro s W e hz
  by_cases hW:W=0
  ·subst hW
   have z:sgn a m+sgn b k=0:=by rw [hz];cases s<;>rfl
   rw [h0 z]
   have:=AU (a'&&b')
   exact MM e _ this.1 this.2
  ·have nz:sgn a m+sgn b k≠0:=by rw [hz];unfold sgn;cases s<;>simp<;>omega
   have R:=h1 nz
   rw [hz] at R
   have e1:(sgn s W).natAbs=W:=sgn_natAbs s W
   have e2:decide (sgn s W<0)=s:=by unfold sgn;cases s<;>simp<;>omega
   rw [e1,e2] at R
   exact tf R (by decide) e (.inl rfl)
 unfold Ce at e
 dsimp only at e
 cases a<;>cases b<;>dsimp only [cond] at e
 ·exact UK _ _ e (by unfold sgn;rfl)
 ·cases hb:dg k m with
  |true=>
   rw [hb] at e
   have:=cS hb
   exact UK _ _ e (by simp;exact (mK (.i (.l xB xA) (.E (.a (.k xA) (.g (.k xB))) (.k (.s xA xB)))) [_,_]) this)
  |false=>
   rw [hb] at e
   have: ¬k<=m:=λq=>by rw [show dg k m=ai from ig q] at hb;exact rI hb
   exact UK _ _ e (by simp;exact (mK (.i (.n (.l xB xA)) (.E (.a (.k xA) (.g (.k xB))) (.g (.k (.s xB xA))))) [_,_]) this)
 ·cases hb:dg k m with
  |true=>
   rw [hb] at e
   have:=cS hb
   exact UK _ _ e (by simp;exact (mK (.i (.l xB xA) (.E (.a (.g (.k xA)) (.k xB)) (.g (.k (.s xA xB))))) [_,_]) this)
  |false=>
   rw [hb] at e
   have: ¬k<=m:=λq=>by rw [show dg k m=ai from ig q] at hb;exact rI hb
   exact UK _ _ e (by simp;exact (mK (.i (.n (.l xB xA)) (.E (.a (.g (.k xA)) (.k xB)) (.k (.s xB xA)))) [_,_]) this)
 ·exact UK _ _ e (by simp;exact mK (.E (.a (.g (.k xA)) (.g (.k xB))) (.g (.a (.k xA) (.k xB)))) [_,_])
theorem OE (hy:FR g y):FR (MD g) (neg y):=by
 obtain ⟨⟨b',k',f',V1⟩,hy2⟩:=hy
 refine ⟨⟨_,_,_,neg_decode V1⟩,?_⟩
 rw [neg_val V1,hy2]
 obtain ⟨b,k⟩:=g
 cases b<;>simp [sgn,MD]
theorem Cu (hx:FR f x) (hy:FR g y) (e:LB f g=aa r):FR r (sub x y):=by with_unfolding_all exact xt hx (OE hy) e
theorem FR.sign (h:FR f x) (hx:decode x= .fin a m e):(val x).natAbs=f.m/\(a=f.s\/f.m=0):=by
 have e1:(val x).natAbs=f.m:=by rw [h.2,sgn_natAbs]
 refine ⟨e1,?_⟩
 by_cases hz:f.m=0
 ·exact .inr hz
 ·left
  have e2:=h.2
  rw [val_eq hx] at e2
  have:m*2^(e+1074).toNat=f.m:=by rw [<-val_natAbs hx,e1]
  rw [this] at e2
  revert e2
  cases a<;>cases f.s<;>simp<;>(first|exact (mK (.i (.n (.e xA xJ)) (.n (.E (.g (.k xA)) (.k xA)))) [_]) hz|exact (mK (.i (.n (.e xA xJ)) (.n (.E (.k xA) (.g (.k xA))))) [_]) hz)
theorem CD (hx:FR f x) (hy:FR g y) (e:Mg f g=aa r):FR r (mul x y):=by
 obtain ⟨a',m',e',Vg⟩:=hx.1
 obtain ⟨b',k',f',V1⟩:=hy.1
 have R:=mul_right Vg V1
 obtain ⟨v1,s1⟩:=hx.sign Vg
 obtain ⟨v2,s2⟩:=hy.sign V1
 rw [v1,v2] at R
 obtain ⟨a,m⟩:=f
 obtain ⟨b,k⟩:=g
 dsimp only at*
 refine tf R DT e ?_
 rcases s1 with s1|s1
 ·rcases s2 with s2|s2
  ·left;subst s1 s2;cases a'<;>cases b'<;>rfl
  ·right;subst s2;rfl
 ·right;subst s1;exact mK (.e (.m 0 xA) xJ) [_]
theorem An {α:Type} {a b:α}:cond false a b=b:=rfl
theorem F1 (h:bN k 0=false):k≠0:=λq=>by subst q;exact rI h
theorem zS (hx:FR f x) (hy:FR g y) (e:y4 f g=aa r):FR r (div x y)/\isZero y=false:=by
 obtain ⟨a',m',e',Vg⟩:=hx.1
 obtain ⟨b',k',f',V1⟩:=hy.1
 obtain ⟨v1,s1⟩:=hx.sign Vg
 obtain ⟨v2,s2⟩:=hy.sign V1
 obtain ⟨a,m⟩:=f
 obtain ⟨b,k⟩:=g
 dsimp only at*
 unfold y4 at e
 dsimp only at e
 cases hb:bN k 0 with
 |true=>rw [hb] at e;exact nE e
 |false=>
  rw [hb,An] at e
  have hk:=F1 hb
  have XN:k'≠0:=λq=>by rw [val_natAbs V1,q] at v2;simp at v2;exact (mK (.i (.n (.e xA xJ)) (.n (.e xJ xA))) [_]) hk v2
  have R:=div_right Vg V1 XN
  rw [v1,v2,show (2:Nat)^1074=U from rfl,<- @jU m U] at R
  refine ⟨tf R (by exact (mK (.i (.n (.e xA xJ)) (.b xJ xA)) [_]) hk) e ?_,?_⟩
  ·rcases s1 with s1|s1
   ·rcases s2 with s2|s2
    ·left;subst s1 s2;cases a'<;>cases b'<;>rfl
    ·exact absurd s2 hk
   ·right;subst s1;exact jU▸(Nat.zero_mul U)
  ·unfold isZero;rw [V1]
   split
   ·rename_i h;cases h;exact absurd rfl XN
   ·rfl
theorem JR (hx:FR f x) (hy:FR g y):cmp x y=aa (compare (sgn f.s f.m) (sgn g.s g.m)):=by
 obtain ⟨a',m',e',Vg⟩:=hx.1
 obtain ⟨b',k',f',V1⟩:=hy.1
 rw [cmp_right Vg V1,hx.2,hy.2]
theorem Pv (f g:Fx):vh f g=decide (sgn f.s f.m<sgn g.s g.m):=by
 obtain ⟨a,m⟩:=f
 obtain ⟨b,k⟩:=g
 have hblt: ∀p q:Nat,jo p q=decide (p<q):=λp q=>by rw [dE,Nat.blt_eq,decide_eq_true_iff]
 have Va: ∀p:Nat,bN p 0=decide (p=0):=λp=>by rw [dE,mm,decide_eq_true_iff]
 cases a<;>cases b
 ·show jo m k=decide ((m:Int)<(k:Int))
  rw [hblt];exact decide_eq_decide.mpr (by omega)
 ·show false=decide ((m:Int)< -(k:Int))
  exact (decide_eq_false (by exact mK (.n (.B (.k xA) (.g (.k xB)))) [_,_])).symm
 ·show (!(bN m 0&&bN k 0))=decide (-(m:Int)<(k:Int))
  rw [Va,Va]
  by_cases h1:m=0
  ·by_cases h2:k=0
   ·subst h1 h2;rfl
   ·rw [decide_eq_false h2,decide_eq_true (show -(m:Int)<(k:Int) by exact (mK (.i (.n (.e xB xJ)) (.B (.g (.k xA)) (.k xB))) [_,_]) h2),iq];rfl
  ·rw [decide_eq_false h1,decide_eq_true (show -(m:Int)<(k:Int) by exact (mK (.i (.n (.e xA xJ)) (.B (.g (.k xA)) (.k xB))) [_,_]) h1),jP];rfl
 ·show jo k m=decide (-(m:Int)< -(k:Int))
  rw [hblt];exact decide_eq_decide.mpr (by omega)
theorem GS (f g:Fx):tw f g=decide (sgn f.s f.m=sgn g.s g.m):=by
 obtain ⟨a,m⟩:=f
 obtain ⟨b,k⟩:=g
 have Va: ∀p q:Nat,bN p q=decide (p=q):=λp q=>by rw [dE,mm,decide_eq_true_iff]
 have h2: ∀c:Bool,(decide (m=k)&&(c||decide (m=0)))=decide (m=k/\(c=ai\/m=0)):=λc=>by cases c<;>simp
 cases a<;>cases b
 ·show (bN m k&&(ai||Nat.beq m 0))=decide ((m:Int)=(k:Int))
  rw [Va,Va,h2];exact decide_eq_decide.mpr (by constructor<;>intro h<;>simp at* <;>(first|exact (mK (.i (.E (.k xA) (.k xB)) (.e xA xB)) [_,_]) h|exact (mK (.i (.e xA xB) (.E (.k xA) (.k xB))) [_,_]) h))
 ·show (bN m k&&(false||Nat.beq m 0))=decide ((m:Int)= -(k:Int))
  rw [Va,Va,h2];exact decide_eq_decide.mpr (by constructor<;>intro h<;>simp at* <;>(first|exact (mK (.i (.E (.k xA) (.g (.k xB))) (.a (.e xA xB) (.e xA xJ))) [_,_]) h|exact (mK (.i (.e xA xB) (.i (.e xA xJ) (.E (.k xA) (.g (.k xB))))) [_,_]) h.1 h.2))
 ·show (bN m k&&(false||Nat.beq m 0))=decide (-(m:Int)=(k:Int))
  rw [Va,Va,h2];exact decide_eq_decide.mpr (by constructor<;>intro h<;>simp at* <;>(first|exact (mK (.i (.E (.g (.k xA)) (.k xB)) (.a (.e xA xB) (.e xA xJ))) [_,_]) h|exact (mK (.i (.e xA xB) (.i (.e xA xJ) (.E (.g (.k xA)) (.k xB)))) [_,_]) h.1 h.2))
 ·show (bN m k&&(ai||Nat.beq m 0))=decide (-(m:Int)= -(k:Int))
  rw [Va,Va,h2];exact decide_eq_decide.mpr (by constructor<;>intro h<;>simp at* <;>(first|exact (mK (.i (.E (.k xA) (.k xB)) (.e xA xB)) [_,_]) h|exact (mK (.i (.e xA xB) (.E (.k xA) (.k xB))) [_,_]) h))
theorem D4 (hx:FR f x) (hy:FR g y):(cmp x y==aa Ordering.lt)=vh f g:=by
 rw [JR hx hy,Pv]
 rcases js (sgn f.s f.m) (sgn g.s g.m) with h|h|h
 ·rw [jt.mpr h];simp [h]
 ·rw [h];simp
 ·rw [ju.mpr h]
  have: ¬sgn f.s f.m<sgn g.s g.m:=by exact (mK (.i (.B xB xA) (.n (.B xA xB))) [] [_,_]) h
  simp [this]
theorem Im (hx:FR f x) (hy:FR g y):(cmp x y==aa Ordering.eq)=tw f g:=by
 rw [JR hx hy,GS]
 rcases js (sgn f.s f.m) (sgn g.s g.m) with h|h|h
 ·rw [jt.mpr h]
  have: ¬sgn f.s f.m=sgn g.s g.m:=by exact (mK (.i (.B xA xB) (.n (.E xA xB))) [] [_,_]) h
  simp [this]
 ·rw [h];simp
 ·rw [ju.mpr h]
  have: ¬sgn f.s f.m=sgn g.s g.m:=by exact (mK (.i (.B xB xA) (.n (.E xA xB))) [] [_,_]) h
  simp [this]
theorem Rc (e:QW i=aa r):FR r (ofInt i):=by
 have R:=ofInt_right i
 cases i with
 |ofNat n=>exact tf (t:=decide ((ff n)<0)) (W:=n*U) R (by decide) e (.inl (decide_eq_false (Int.not_lt.mpr (d9 n))))
 |negSucc n=>exact tf (t:=decide ((Int.negSucc n)<0)) (W:=(n+1)*U) R (by decide) e (.inl (decide_eq_true (Int.negSucc_lt_zero n)))
noncomputable abbrev r8:UInt64:=0x3FF0000000000000
theorem CF:decode r8= .fin false (2^52) (-52):=by with_unfolding_all rfl
theorem Dp:2^52*2^1022=U:=by unfold U;rw [<-dk]
theorem PH:FR ⟨false,U⟩ r8:=by
 refine ⟨⟨_,_,_,CF⟩,?_⟩
 rw [val_eq CF,show ((-52:Int)+1074).toNat=1022 from rfl,Dp]
theorem Hf:FR ⟨false,0⟩ (zero false):=⟨(AU false).1,by rw [(AU false).2];rfl⟩
theorem JS (h:FR f x):isZero x=bN f.m 0:=by
 obtain ⟨a,m,e,hx⟩:=h.1
 have v:=(h.sign hx).1
 rw [val_natAbs hx] at v
 unfold isZero
 rw [hx]
 have hp:0<2^(e+1074).toNat:=cj _
 generalize 2^(e+1074).toNat=z at*
 generalize f.m=k at*
 cases m with
 |zero=>
  have:k=0:=by rw [<-v,Nat.zero_mul]
  subst this;rfl
 |succ m=>
  have:k≠0:=by exact v▸(Nat.mul_ne_zero (by exact mK (.n (.e (.a xA xI) xJ)) [_]) (by exact (mK (.i (.b xJ xA) (.n (.e xA xJ))) [_]) hp))
  cases k with
  |zero=>exact absurd rfl this
  |succ k=>rfl
theorem K9 (hx:decode x= .fin a m e):Right (fmod x r8) a (m*2^(e+1074).toNat % U) 1:=by
 have he:=decode_ge hx
 have hf:fmod x r8=ofBin a (m*2^(e - min e (-52)).toNat % (2^52*2^(-52 - min e (-52)).toNat)) (min e (-52)):=by
  unfold fmod
  rw [hx,CF]
  rfl
 rw [hf]
 generalize hg:min e (-52)=g
 have hg1: -1074<=g:=by exact (mK (.i (.L (.g (.c 1074)) xB) (.i (.E (.n xB (.g (.c 52))) xA) (.L (.g (.c 1074)) xA))) [] [_,_]) he hg
 have e1:m*2^(e+1074).toNat=m*2^(e - g).toNat*2^(g+1074).toNat:=by
  rw [dJ,<-dk];congr 2;exact (mK (.i (.E (.n xA (.g (.c 52))) xB) (.e (.t (.a xA (.c 1074))) (.a (.t (.s xA xB)) (.t (.a xB (.c 1074)))))) [] [_,_]) hg
 have e2:U=2^52*2^(-52 - g).toNat*2^(g+1074).toNat:=by
  rw [dJ,<-dk,<-Dp];congr 2;exact (mK (.i (.E (.n xB (.g (.c 52))) xA) (.i (.L (.g (.c 1074)) xA) (.e (.c 1022) (.a (.t (.s (.g (.c 52)) xA)) (.t (.a xA (.c 1074))))))) [] [_,_]) hg hg1
 rw [e1,e2,Nat.mul_mod_mul_right]
 generalize m*2^(e - g).toNat % (2^52*2^(-52 - g).toNat)=M
 refine ofFrac_right (shift_pos _ _ _ (by decide)) ?_ (by decide)
 have:=shift_one M g 1074 (by omega)
 rw [Nat.mul_one]
 exact this
theorem Mn (hx:FR f x) (e:D5 f=aa r):FR r (divmod x r8).2:=by
 obtain ⟨a',m',e',Vg⟩:=hx.1
 have R:=K9 Vg
 obtain ⟨v1,s1⟩:=hx.sign Vg
 rw [val_natAbs Vg] at v1
 rw [v1] at R
 obtain ⟨a,m⟩:=f
 dsimp only at*
 unfold D5 at e
 dsimp only at e
 have hs:(divmod x r8).2=if isZero (fmod x r8) then copysign (zero false) r8 else if lt r8 (zero false)!=lt (fmod x r8) (zero false) then add (fmod x r8) r8 else fmod x r8:=by
  unfold divmod
  dsimp only
  split<;>rename_i h1
  ·rfl
  ·split<;>rename_i h2
   ·rfl
   ·rfl
 rw [hs]
 cases hg:wz a (kI m U) 1 with
 |none=>rw [hg] at e;exact nE e
 |some r0=>
  rw [hg] at e
  have F0:FR r0 (fmod x r8):=tf R (by decide) hg (by
   rcases s1 with s1|s1
   ·exact .inl s1
   ·right;subst s1;exact Nat.zero_mod U)
  rw [JS F0]
  have hl0:lt r8 (zero false)=false:=by decide+kernel
  have hl:lt (fmod x r8) (zero false)=vh r0 ⟨false,0⟩:=D4 F0 Hf
  rw [hl0,hl]
  obtain ⟨b,k⟩:=r0
  cases k with
  |zero=>
   skip
   obtain rfl:=am e
   have hc:copysign (zero false) r8=zero false:=by decide+kernel
   rw [hc]
   exact Hf
  |succ k=>
   show FR _ (if (false:Bool)=ai then _ else _)
   rw [if_neg (by decide)]
   cases b with
   |false=>
    skip
    obtain rfl:=am e
    exact F0
   |true=>
    skip
    exact xt F0 PH e
theorem OX (hx:FR f x) (e:HR f=aa n): ∃a m k,decode x= .fin a m k/\truncOf a m k=n:=by
 obtain ⟨a,m,k,h⟩:=hx.1
 refine ⟨a,m,k,h,?_⟩
 have hk:=decode_ge h
 obtain ⟨v,s⟩:=hx.sign h
 rw [val_natAbs h] at v
 obtain ⟨b,M⟩:=f
 cases b with
 |true=>exact nE e
 |false=>
  obtain rfl:=am e
  dsimp only at*
  have fl:floorOf false m k=((M/U:Nat):Int):=by
   unfold floorOf sgn
   split
   ·rename_i h0
    simp only [a9,if_false]
    have:M=m*2^k.toNat*U:=by
     rw [<-v];unfold U;rw [dJ,<-dk];congr 2;exact (mK (.i (.L xJ xA) (.e (.t (.a xA (.c 1074))) (.a (.t xA) (.c 1074)))) [] [_]) h0
    rw [this,Nat.mul_div_cancel _ DT,Int.natCast_mul]
    simp
   ·rename_i h0
    simp only [a9,if_false]
    have hU:U=2^(-k).toNat*2^(k+1074).toNat:=by unfold U;rw [<-dk];congr 1;exact (mK (.i (.L (.g (.c 1074)) xA) (.i (.n (.L xJ xA)) (.e (.c 1074) (.a (.t (.g xA)) (.t (.a xA (.c 1074))))))) [] [_]) hk h0
    have:M/U=m/2^(-k).toNat:=by
     rw [<-v,hU,fI _ _ (cj _)]
    rw [this]
    have e1:(2:Int)^(-k).toNat=((2^(-k).toNat:Nat):Int):=by rfl
    rw [e1,bX _ (d9 _)]
    rfl
  cases a with
  |false=>exact fl
  |true=>
   rcases s with s|s
   ·exact rI s
   ·subst s
    have hp:0<2^(k+1074).toNat:=cj _
    have hm:m=0:=by
     rcases Nat.mul_eq_zero.mp v with q|q
     ·exact q
     ·exact (mK (.i (.b xJ xB) (.i (.e xB xJ) (.e xA xJ))) [_,_]) hp q
    subst hm
    unfold truncOf ceilOf
    simp only [if_true,iN]
    rw [fl,Nat.zero_div];rfl
end
section
open PySem.Calls PyProof.Rows
theorem eA {G:Prop} (h:p0/\p1) (k:p0->p1->G):G:=k h.1 h.2
theorem rW {G:Prop} (h:p0/\p1/\p2) (k:p0->p1->p2->G):G:=k h.1 h.2.1 h.2.2
theorem Ct {G:Prop} (h:p0/\p1/\p2/\p3) (k:p0->p1->p2->p3->G):G:=k h.1 h.2.1 h.2.2.1 h.2.2.2
theorem Np {G:Prop} (h:p0/\p1/\p2/\p3/\p4) (k:p0->p1->p2->p3->p4->G):G:=k h.1 h.2.1 h.2.2.1 h.2.2.2.1 h.2.2.2.2
theorem K8 {G:Prop} (h:p0/\p1/\p2/\p3/\p4/\p5/\p6/\p7) (k:p0->p1->p2->p3->p4->p5->p6->p7->G):G:=k h.1 h.2.1 h.2.2.1 h.2.2.2.1 h.2.2.2.2.1 h.2.2.2.2.2.1 h.2.2.2.2.2.2.1 h.2.2.2.2.2.2.2
theorem Nm {p3:Aa->Prop} {G:Prop} (h:p0/\p1/\p2/\ ∃a,p3 a) (k:p0->p1->p2-> ∀a,p3 a->G):G:=al h.2.2.2 λa h0=>k h.1 h.2.1 h.2.2.1 a h0
theorem z6 {Aa:Sort u0} {Ab:Sort u1} {Ac:Sort u2} {Ad:Sort u3} {p3:Aa->Ab->Ac->Ad->Ae->Prop} {p4:Aa->Ab->Ac->Ad->Ae->Prop} {p5:Aa->Ab->Ac->Ad->Ae->Prop} {p6:Aa->Ab->Ac->Ad->Ae->Prop} {p7:Aa->Ab->Ac->Ad->Ae->Prop} {p8:Aa->Ab->Ac->Ad->Ae->Prop} {p9:Aa->Ab->Ac->Ad->Ae->Prop} {p10:Aa->Ab->Ac->Ad->Ae->Prop} {p11:Aa->Ab->Ac->Ad->Ae->Prop} {G:Prop} (h:p0/\p1/\p2/\ ∃a,∃b,∃c,∃d,∃e,p3 a b c d e/\p4 a b c d e/\p5 a b c d e/\p6 a b c d e/\p7 a b c d e/\p8 a b c d e/\p9 a b c d e/\p10 a b c d e/\p11 a b c d e) (k:p0->p1->p2-> ∀a,∀b,∀c,∀d,∀e,p3 a b c d e->p4 a b c d e->p5 a b c d e->p6 a b c d e->p7 a b c d e->p8 a b c d e->p9 a b c d e->p10 a b c d e->p11 a b c d e->G):G:=al h.2.2.2 λa h0=>al h0 λb h1=>al h1 λc h2=>al h2 λd h3=>al h3 λe h4=>k h.1 h.2.1 h.2.2.1 a b c d e h4.1 h4.2.1 h4.2.2.1 h4.2.2.2.1 h4.2.2.2.2.1 h4.2.2.2.2.2.1 h4.2.2.2.2.2.2.1 h4.2.2.2.2.2.2.2.1 h4.2.2.2.2.2.2.2.2
theorem HN {p2:Aa->Prop} {p3:Aa->Prop} {G:Prop} (h:p0/\p1/\ ∃a,p2 a/\p3 a) (k:p0->p1-> ∀a,p2 a->p3 a->G):G:=al h.2.2 λa h0=>k h.1 h.2.1 a h0.1 h0.2
theorem Qm {p2:Aa->Prop} {p3:Aa->Prop} {p4:Aa->Prop} {G:Prop} (h:p0/\p1/\ ∃a,p2 a/\p3 a/\p4 a) (k:p0->p1-> ∀a,p2 a->p3 a->p4 a->G):G:=al h.2.2 λa h0=>k h.1 h.2.1 a h0.1 h0.2.1 h0.2.2
theorem On {Aa:Sort u0} {p2:Aa->Ab->Prop} {p3:Aa->Ab->Prop} {p4:Aa->Ab->Prop} {G:Prop} (h:p0/\p1/\ ∃a,∃b,p2 a b/\p3 a b/\p4 a b) (k:p0->p1-> ∀a,∀b,p2 a b->p3 a b->p4 a b->G):G:=al h.2.2 λa h0=>al h0 λb h1=>k h.1 h.2.1 a b h1.1 h1.2.1 h1.2.2
theorem Ll {Aa:Sort u0} {Ab:Sort u1} {p2:Aa->Ab->Ac->Prop} {p3:Aa->Ab->Ac->Prop} {p4:Aa->Ab->Ac->Prop} {G:Prop} (h:p0/\p1/\ ∃a,∃b,∃c,p2 a b c/\p3 a b c/\p4 a b c) (k:p0->p1-> ∀a,∀b,∀c,p2 a b c->p3 a b c->p4 a b c->G):G:=al h.2.2 λa h0=>al h0 λb h1=>al h1 λc h2=>k h.1 h.2.1 a b c h2.1 h2.2.1 h2.2.2
theorem o8 {p1:Aa->Prop} {p2:Aa->Prop} {G:Prop} (h:p0/\ ∃a,p1 a/\p2 a) (k:p0-> ∀a,p1 a->p2 a->G):G:=al h.2 λa h0=>k h.1 a h0.1 h0.2
theorem NS {p1:Aa->Prop} {p2:Aa->Prop} {p3:Aa->Prop} {G:Prop} (h:p0/\ ∃a,p1 a/\p2 a/\p3 a) (k:p0-> ∀a,p1 a->p2 a->p3 a->G):G:=al h.2 λa h0=>k h.1 a h0.1 h0.2.1 h0.2.2
theorem IA {Aa:Sort u0} {Ab:Sort u1} {p1:Aa->Ab->Ac->Prop} {p2:Aa->Ab->Ac->Prop} {p3:Aa->Ab->Ac->Prop} {p4:Aa->Ab->Ac->Prop} {p5:Aa->Ab->Ac->Prop} {p6:Aa->Ab->Ac->Prop} {G:Prop} (h:p0/\ ∃a,∃b,∃c,p1 a b c/\p2 a b c/\p3 a b c/\p4 a b c/\p5 a b c/\p6 a b c) (k:p0-> ∀a,∀b,∀c,p1 a b c->p2 a b c->p3 a b c->p4 a b c->p5 a b c->p6 a b c->G):G:=al h.2 λa h0=>al h0 λb h1=>al h1 λc h2=>k h.1 a b c h2.1 h2.2.1 h2.2.2.1 h2.2.2.2.1 h2.2.2.2.2.1 h2.2.2.2.2.2
theorem eE {p0:Aa->Prop} {G:Prop} (h: ∃a,p0 a) (k: ∀a,p0 a->G):G:=al h λa h0=>k a h0
theorem mX {p0:Aa->Prop} {p1:Aa->Prop} {G:Prop} (h: ∃a,p0 a/\p1 a) (k: ∀a,p0 a->p1 a->G):G:=al h λa h0=>k a h0.1 h0.2
theorem tL {p0:Aa->Prop} {p1:Aa->Prop} {p2:Aa->Prop} {G:Prop} (h: ∃a,p0 a/\p1 a/\p2 a) (k: ∀a,p0 a->p1 a->p2 a->G):G:=al h λa h0=>k a h0.1 h0.2.1 h0.2.2
theorem Sa {p0:Aa->Prop} {p1:Aa->Prop} {p2:Aa->Prop} {p3:Aa->Prop} {G:Prop} (h: ∃a,p0 a/\p1 a/\p2 a/\p3 a) (k: ∀a,p0 a->p1 a->p2 a->p3 a->G):G:=al h λa h0=>k a h0.1 h0.2.1 h0.2.2.1 h0.2.2.2
theorem Lv {p0:Aa->Prop} {p1:Aa->Prop} {p2:Aa->Prop} {p3:Aa->Prop} {p4:Aa->Prop} {p5:Aa->Prop} {p6:Aa->Prop} {G:Prop} (h: ∃a,p0 a/\p1 a/\p2 a/\p3 a/\p4 a/\p5 a/\p6 a) (k: ∀a,p0 a->p1 a->p2 a->p3 a->p4 a->p5 a->p6 a->G):G:=al h λa h0=>k a h0.1 h0.2.1 h0.2.2.1 h0.2.2.2.1 h0.2.2.2.2.1 h0.2.2.2.2.2.1 h0.2.2.2.2.2.2
theorem IF {Aa:Sort u0} {p0:Aa->Prop} {p1:Aa->Prop} {p2:Aa->Ab->Prop} {G:Prop} (h: ∃a,p0 a/\p1 a/\ ∃b,p2 a b) (k: ∀a,p0 a->p1 a-> ∀b,p2 a b->G):G:=al h λa h0=>al h0.2.2 λb h1=>k a h0.1 h0.2.1 b h1
theorem Nv {Aa:Sort u0} {p0:Aa->Prop} {p1:Aa->Ab->Prop} {p2:Aa->Ab->Prop} {G:Prop} (h: ∃a,p0 a/\ ∃b,p1 a b/\p2 a b) (k: ∀a,p0 a-> ∀b,p1 a b->p2 a b->G):G:=al h λa h0=>al h0.2 λb h1=>k a h0.1 b h1.1 h1.2
theorem yR {Aa:Sort u0} {p0:Aa->Prop} {p1:Aa->Ab->Prop} {p2:Aa->Ab->Prop} {p3:Aa->Ab->Prop} {G:Prop} (h: ∃a,p0 a/\ ∃b,p1 a b/\p2 a b/\p3 a b) (k: ∀a,p0 a-> ∀b,p1 a b->p2 a b->p3 a b->G):G:=al h λa h0=>al h0.2 λb h1=>k a h0.1 b h1.1 h1.2.1 h1.2.2
theorem rU {Aa:Sort u0} {p0:Aa->Ab->Prop} {G:Prop} (h: ∃a,∃b,p0 a b) (k: ∀a,∀b,p0 a b->G):G:=al h λa h0=>al h0 λb h1=>k a b h1
theorem o6 {Aa:Sort u0} {p0:Aa->Ab->Prop} {p1:Aa->Ab->Prop} {G:Prop} (h: ∃a,∃b,p0 a b/\p1 a b) (k: ∀a,∀b,p0 a b->p1 a b->G):G:=al h λa h0=>al h0 λb h1=>k a b h1.1 h1.2
theorem nu {Aa:Sort u0} {p0:Aa->Ab->Prop} {p1:Aa->Ab->Prop} {p2:Aa->Ab->Prop} {G:Prop} (h: ∃a,∃b,p0 a b/\p1 a b/\p2 a b) (k: ∀a,∀b,p0 a b->p1 a b->p2 a b->G):G:=al h λa h0=>al h0 λb h1=>k a b h1.1 h1.2.1 h1.2.2
theorem nw {Aa:Sort u0} {p0:Aa->Ab->Prop} {p1:Aa->Ab->Prop} {p2:Aa->Ab->Prop} {p3:Aa->Ab->Prop} {G:Prop} (h: ∃a,∃b,p0 a b/\p1 a b/\p2 a b/\p3 a b) (k: ∀a,∀b,p0 a b->p1 a b->p2 a b->p3 a b->G):G:=al h λa h0=>al h0 λb h1=>k a b h1.1 h1.2.1 h1.2.2.1 h1.2.2.2
theorem F9 {Aa:Sort u0} {Ab:Sort u1} {Ac:Sort u2} {p0:Aa->Ab->Prop} {p1:Aa->Ab->Prop} {p2:Aa->Ab->Prop} {p3:Aa->Ab->Ac->Ad->Prop} {p4:Aa->Ab->Ac->Ad->Prop} {p5:Aa->Ab->Ac->Ad->Prop} {p6:Aa->Ab->Ac->Ad->Prop} {G:Prop} (h: ∃a,∃b,p0 a b/\p1 a b/\p2 a b/\ ∃c,∃d,p3 a b c d/\p4 a b c d/\p5 a b c d/\p6 a b c d) (k: ∀a,∀b,p0 a b->p1 a b->p2 a b-> ∀c,∀d,p3 a b c d->p4 a b c d->p5 a b c d->p6 a b c d->G):G:=al h λa h0=>al h0 λb h1=>al h1.2.2.2 λc h2=>al h2 λd h3=>k a b h1.1 h1.2.1 h1.2.2.1 c d h3.1 h3.2.1 h3.2.2.1 h3.2.2.2
theorem vA {Aa:Sort u0} {Ab:Sort u1} {p0:Aa->Ab->Ac->Prop} {G:Prop} (h: ∃a,∃b,∃c,p0 a b c) (k: ∀a,∀b,∀c,p0 a b c->G):G:=al h λa h0=>al h0 λb h1=>al h1 λc h2=>k a b c h2
theorem wK {Aa:Sort u0} {Ab:Sort u1} {p0:Aa->Ab->Ac->Prop} {p1:Aa->Ab->Ac->Prop} {G:Prop} (h: ∃a,∃b,∃c,p0 a b c/\p1 a b c) (k: ∀a,∀b,∀c,p0 a b c->p1 a b c->G):G:=al h λa h0=>al h0 λb h1=>al h1 λc h2=>k a b c h2.1 h2.2
theorem vW {Aa:Sort u0} {Ab:Sort u1} {p0:Aa->Ab->Ac->Prop} {p1:Aa->Ab->Ac->Prop} {p2:Aa->Ab->Ac->Prop} {G:Prop} (h: ∃a,∃b,∃c,p0 a b c/\p1 a b c/\p2 a b c) (k: ∀a,∀b,∀c,p0 a b c->p1 a b c->p2 a b c->G):G:=al h λa h0=>al h0 λb h1=>al h1 λc h2=>k a b c h2.1 h2.2.1 h2.2.2
theorem sa {Aa:Sort u0} {Ab:Sort u1} {p0:Aa->Ab->Ac->Prop} {p1:Aa->Ab->Ac->Prop} {p2:Aa->Ab->Ac->Prop} {p3:Aa->Ab->Ac->Prop} {G:Prop} (h: ∃a,∃b,∃c,p0 a b c/\p1 a b c/\p2 a b c/\p3 a b c) (k: ∀a,∀b,∀c,p0 a b c->p1 a b c->p2 a b c->p3 a b c->G):G:=al h λa h0=>al h0 λb h1=>al h1 λc h2=>k a b c h2.1 h2.2.1 h2.2.2.1 h2.2.2.2
theorem uR {Aa:Sort u0} {Ab:Sort u1} {p0:Aa->Ab->Ac->Prop} {p1:Aa->Ab->Ac->Prop} {p2:Aa->Ab->Ac->Prop} {p3:Aa->Ab->Ac->Prop} {p4:Aa->Ab->Ac->Prop} {G:Prop} (h: ∃a,∃b,∃c,p0 a b c/\p1 a b c/\p2 a b c/\p3 a b c/\p4 a b c) (k: ∀a,∀b,∀c,p0 a b c->p1 a b c->p2 a b c->p3 a b c->p4 a b c->G):G:=al h λa h0=>al h0 λb h1=>al h1 λc h2=>k a b c h2.1 h2.2.1 h2.2.2.1 h2.2.2.2.1 h2.2.2.2.2
theorem Qi {Aa:Sort u0} {Ab:Sort u1} {Ac:Sort u2} {p0:Aa->Ab->Ac->Ad->Prop} {p1:Aa->Ab->Ac->Ad->Prop} {G:Prop} (h: ∃a,∃b,∃c,∃d,p0 a b c d/\p1 a b c d) (k: ∀a,∀b,∀c,∀d,p0 a b c d->p1 a b c d->G):G:=al h λa h0=>al h0 λb h1=>al h1 λc h2=>al h2 λd h3=>k a b c d h3.1 h3.2
theorem EK {Aa:Sort u0} {Ab:Sort u1} {Ac:Sort u2} {p0:Aa->Ab->Ac->Ad->Prop} {p1:Aa->Ab->Ac->Ad->Prop} {p2:Aa->Ab->Ac->Ad->Prop} {p3:Aa->Ab->Ac->Ad->Prop} {G:Prop} (h: ∃a,∃b,∃c,∃d,p0 a b c d/\p1 a b c d/\p2 a b c d/\p3 a b c d) (k: ∀a,∀b,∀c,∀d,p0 a b c d->p1 a b c d->p2 a b c d->p3 a b c d->G):G:=al h λa h0=>al h0 λb h1=>al h1 λc h2=>al h2 λd h3=>k a b c d h3.1 h3.2.1 h3.2.2.1 h3.2.2.2
theorem BU {Aa:Sort u0} {Ab:Sort u1} {Ac:Sort u2} {p0:Aa->Ab->Ac->Ad->Prop} {p1:Aa->Ab->Ac->Ad->Prop} {p2:Aa->Ab->Ac->Ad->Prop} {p3:Aa->Ab->Ac->Ad->Prop} {p4:Aa->Ab->Ac->Ad->Prop} {p5:Aa->Ab->Ac->Ad->Prop} {G:Prop} (h: ∃a,∃b,∃c,∃d,p0 a b c d/\p1 a b c d/\p2 a b c d/\p3 a b c d/\p4 a b c d/\p5 a b c d) (k: ∀a,∀b,∀c,∀d,p0 a b c d->p1 a b c d->p2 a b c d->p3 a b c d->p4 a b c d->p5 a b c d->G):G:=al h λa h0=>al h0 λb h1=>al h1 λc h2=>al h2 λd h3=>k a b c d h3.1 h3.2.1 h3.2.2.1 h3.2.2.2.1 h3.2.2.2.2.1 h3.2.2.2.2.2
theorem z7 {Aa:Sort u0} {Ab:Sort u1} {Ac:Sort u2} {p0:Aa->Ab->Ac->Ad->Prop} {p1:Aa->Ab->Ac->Ad->Prop} {p2:Aa->Ab->Ac->Ad->Prop} {p3:Aa->Ab->Ac->Ad->Prop} {p4:Aa->Ab->Ac->Ad->Prop} {p5:Aa->Ab->Ac->Ad->Prop} {p6:Aa->Ab->Ac->Ad->Prop} {G:Prop} (h: ∃a,∃b,∃c,∃d,p0 a b c d/\p1 a b c d/\p2 a b c d/\p3 a b c d/\p4 a b c d/\p5 a b c d/\p6 a b c d) (k: ∀a,∀b,∀c,∀d,p0 a b c d->p1 a b c d->p2 a b c d->p3 a b c d->p4 a b c d->p5 a b c d->p6 a b c d->G):G:=al h λa h0=>al h0 λb h1=>al h1 λc h2=>al h2 λd h3=>k a b c d h3.1 h3.2.1 h3.2.2.1 h3.2.2.2.1 h3.2.2.2.2.1 h3.2.2.2.2.2.1 h3.2.2.2.2.2.2
theorem JI {Aa:Sort u0} {Ab:Sort u1} {Ac:Sort u2} {Ad:Sort u3} {p0:Aa->Ab->Ac->Ad->Ae->Prop} {G:Prop} (h: ∃a,∃b,∃c,∃d,∃e,p0 a b c d e) (k: ∀a,∀b,∀c,∀d,∀e,p0 a b c d e->G):G:=al h λa h0=>al h0 λb h1=>al h1 λc h2=>al h2 λd h3=>al h3 λe h4=>k a b c d e h4
theorem Hw {Aa:Sort u0} {Ab:Sort u1} {Ac:Sort u2} {Ad:Sort u3} {p0:Aa->Ab->Ac->Ad->Ae->Prop} {p1:Aa->Ab->Ac->Ad->Ae->Prop} {G:Prop} (h: ∃a,∃b,∃c,∃d,∃e,p0 a b c d e/\p1 a b c d e) (k: ∀a,∀b,∀c,∀d,∀e,p0 a b c d e->p1 a b c d e->G):G:=al h λa h0=>al h0 λb h1=>al h1 λc h2=>al h2 λd h3=>al h3 λe h4=>k a b c d e h4.1 h4.2
theorem GG {Aa:Sort u0} {Ab:Sort u1} {Ac:Sort u2} {Ad:Sort u3} {p0:Aa->Ab->Ac->Ad->Ae->Prop} {p1:Aa->Ab->Ac->Ad->Ae->Prop} {p2:Aa->Ab->Ac->Ad->Ae->Prop} {p3:Aa->Ab->Ac->Ad->Ae->Prop} {p4:Aa->Ab->Ac->Ad->Ae->Prop} {p5:Aa->Ab->Ac->Ad->Ae->Prop} {G:Prop} (h: ∃a,∃b,∃c,∃d,∃e,p0 a b c d e/\p1 a b c d e/\p2 a b c d e/\p3 a b c d e/\p4 a b c d e/\p5 a b c d e) (k: ∀a,∀b,∀c,∀d,∀e,p0 a b c d e->p1 a b c d e->p2 a b c d e->p3 a b c d e->p4 a b c d e->p5 a b c d e->G):G:=al h λa h0=>al h0 λb h1=>al h1 λc h2=>al h2 λd h3=>al h3 λe h4=>k a b c d e h4.1 h4.2.1 h4.2.2.1 h4.2.2.2.1 h4.2.2.2.2.1 h4.2.2.2.2.2
theorem Ob {Aa:Sort u0} {Ab:Sort u1} {Ac:Sort u2} {Ad:Sort u3} {Ae:Sort u4} {p0:Aa->Ab->Ac->Ad->Ae->Af->Prop} {G:Prop} (h: ∃a,∃b,∃c,∃d,∃e,∃f,p0 a b c d e f) (k: ∀a,∀b,∀c,∀d,∀e,∀f,p0 a b c d e f->G):G:=al h λa h0=>al h0 λb h1=>al h1 λc h2=>al h2 λd h3=>al h3 λe h4=>al h4 λf h5=>k a b c d e f h5
theorem AZ {Aa:Sort u0} {Ab:Sort u1} {Ac:Sort u2} {Ad:Sort u3} {Ae:Sort u4} {p0:Aa->Ab->Ac->Ad->Ae->Af->Prop} {p1:Aa->Ab->Ac->Ad->Ae->Af->Prop} {G:Prop} (h: ∃a,∃b,∃c,∃d,∃e,∃f,p0 a b c d e f/\p1 a b c d e f) (k: ∀a,∀b,∀c,∀d,∀e,∀f,p0 a b c d e f->p1 a b c d e f->G):G:=al h λa h0=>al h0 λb h1=>al h1 λc h2=>al h2 λd h3=>al h3 λe h4=>al h4 λf h5=>k a b c d e f h5.1 h5.2
theorem DD {Aa:Sort u0} {Ab:Sort u1} {Ac:Sort u2} {Ad:Sort u3} {Ae:Sort u4} {Af:Sort u5} {p0:Aa->Ab->Ac->Ad->Ae->Af->Ag->Prop} {p1:Aa->Ab->Ac->Ad->Ae->Af->Ag->Prop} {G:Prop} (h: ∃a,∃b,∃c,∃d,∃e,∃f,∃g,p0 a b c d e f g/\p1 a b c d e f g) (k: ∀a,∀b,∀c,∀d,∀e,∀f,∀g,p0 a b c d e f g->p1 a b c d e f g->G):G:=al h λa h0=>al h0 λb h1=>al h1 λc h2=>al h2 λd h3=>al h3 λe h4=>al h4 λf h5=>al h5 λg h6=>k a b c d e f g h6.1 h6.2
theorem si {Aa:Sort u0} {Ab:Sort u1} {Ac:Sort u2} {Ad:Sort u3} {Ae:Sort u4} {Af:Sort u5} {Ag:Sort u6} {Ah:Sort u7} {Ai:Sort u8} {p0:Aa->Ab->Ac->Ad->Ae->Af->Ag->Prop} {p1:Aa->Ab->Ac->Ad->Ae->Af->Ag->Ah->Ai->Aj->Prop} {p2:Aa->Ab->Ac->Ad->Ae->Af->Ag->Ah->Ai->Aj->Prop} {p3:Aa->Ab->Ac->Ad->Ae->Af->Ag->Ah->Ai->Aj->Prop} {G:Prop} (h: ∃a,∃b,∃c,∃d,∃e,∃f,∃g,p0 a b c d e f g/\ ∃h,∃i,∃j,p1 a b c d e f g h i j/\p2 a b c d e f g h i j/\p3 a b c d e f g h i j) (k: ∀a,∀b,∀c,∀d,∀e,∀f,∀g,p0 a b c d e f g-> ∀h,∀i,∀j,p1 a b c d e f g h i j->p2 a b c d e f g h i j->p3 a b c d e f g h i j->G):G:=al h λa h0=>al h0 λb h1=>al h1 λc h2=>al h2 λd h3=>al h3 λe h4=>al h4 λf h5=>al h5 λg h6=>al h6.2 λh h7=>al h7 λi h8=>al h8 λj h9=>k a b c d e f g h6.1 h i j h9.1 h9.2.1 h9.2.2
inductive PV where
 |none
 |bool (b:Bool)
 |int (i:Int)
 |float (x:UInt64)
 |fx (f:Fx)
 |str (x:Str)
 |bytes (b:Array UInt8)
 |tup (l:List PV)
 |list (l:List PV)
 |raw (v:ay)
 |inst (L:aF)
 |hdr (l:List PV)
 deriving Inhabited
structure oX (h:aW) (a d L:aF):Prop where
 obj:h.get? a=aa (gd 293 d)
 dic: ∃od,h.get? d=aa od/\gp "_headers" od=aa (aa (.ref L))/\ ∀n:Str,(n=="_headers")=false->gp n od=aa az
abbrev m4 (h h':aW):Prop:= ∀b o,h.get? b=aa o->h'.get? b=aa o
theorem m4.trans (a:m4 h h') (b:m4 h' WG):m4 h WG:=λx o e=>b x o (a x o e)
theorem m4.rfl:m4 h h:=λz z e=>e
abbrev oV (X:List aF) (h h':aW):Prop:= ∀b o,b∉X->h.get? b=aa o->h'.get? b=aa o
abbrev oj (X:List aF) (h:aW):Prop:= ∀a∈X,∃o,h.get? a=aa o
theorem CV {h h':aW} (k:m4 h h') (e:h'.get? b=az):h.get? b=az:=by
 cases q:h.get? b with
 |none=>rfl
 |some o=>exact absurd ((k b o q).symm.trans e) nofun
theorem oj.keep (l:oj X h) (k:m4 h h'):oj X h':=λa ha=>let ⟨o,e⟩:=l a ha;⟨o,k _ _ e⟩
mutual
def mV (X:List aF) (h:aW):PV->ay->Prop
 |.none,v=>v= .none
 |.bool b,v=>v= .bool b
 |.int i,v=> ∃t,v= .int i t
 |.float x,v=> ∃t,v= .float x t
 |.fx f,v=> ∃x t,v= .float x t/\FR f x
 |.str x,v=> ∃t,v= .str x t
 |.bytes x,v=> ∃t,v= .bytes x t
 |.raw u,v=>v=u
 |.tup l,v=> ∃a vs,v= .ref a/\a∉X/\IsTup h a vs.toArray/\mR X h l vs
 |.list l,v=> ∃a vs,v= .ref a/\a∉X/\h.IsList a vs.toArray/\mR X h l vs
 |.inst L,v=> ∃a d,v= .ref a/\a∉X/\d∉X/\oX h a d L
 |.hdr l,v=> ∃a d L vs,v= .ref a/\a∉X/\d∉X/\L∉X/\oX h a d L/\h.IsList L vs.toArray/\mR X h l vs
def mR (X:List aF) (h:aW):List PV->List ay->Prop
 |[],vs=>vs=[]
 |p::ps,vs=> ∃v us,vs=v::us/\mV X h p v/\mR X h ps us
end
def NF (o:Obj):Prop:= ∀vs,o.data≠ .fields vs
abbrev Mv (X Y:List aF) (h h':aW):Prop:= ∀a o,a∉X->h.get? a=aa o->NF o->a∉Y/\h'.get? a=aa o
theorem xf (k:Mv X Y h h') {T:ay} (ha:a∉X) (t: ∃o,h.get? a=aa o/\o.cls=T/\ ∃n,o.data= .seq vs n):a∉Y/\ ∃o,h'.get? a=aa o/\o.cls=T/\ ∃n,o.data= .seq vs n:=
 let ⟨o,q1,q2,n,q3⟩:=t;let z:=k a o ha q1 λy h=>nomatch q3.symm.trans h;⟨z.1,o,z.2,q2,n,q3⟩
theorem Hu (k:Mv X Y h h') (ha:a∉X) (hd:d∉X) (t:oX h a d L):a∉Y/\d∉Y/\oX h' a d L:=
 let ⟨o,q,e,r⟩:=t.dic
 let z:=k a _ ha t.obj λj h=>nomatch h
 let y:=k d o hd q λj h=>by unfold gp at e;rw [h] at e;exact nE e
 ⟨z.1,y.1,z.2,o,y.2,e,r⟩
mutual
theorem mV.gen (k:Mv X Y h h'): ∀{p:PV} {v:ay},mV X h p v->mV Y h' p v
 |.none,_,r=>r
 |.bool _,_,r=>r
 |.int _,_,r=>r
 |.float _,_,r=>r
 |.fx _,_,r=>r
 |.str _,_,r=>r
 |.bytes _,_,r=>r
 |.raw _,_,r=>r
 |.tup l,v,r=>by
  unfold mV at r ⊢
  exact nw r λa vs e ha t q=>⟨a,vs,e,(xf k ha t).1,(xf k ha t).2,mR.gen k q⟩
 |.list l,v,r=>by
  unfold mV at r ⊢
  exact nw r λa vs e ha t q=>⟨a,vs,e,(xf k ha t).1,(xf k ha t).2,mR.gen k q⟩
 |.inst L,v,r=>by
  unfold mV at r ⊢
  exact nw r λa d e ha hd t=>⟨a,d,e,Hu k ha hd t⟩
 |.hdr l,v,r=>by
  unfold mV at r ⊢
  exact z7 r λa d L vs e ha hd hL t tl q=>rW (Hu k ha hd t) λz1 z2 z3=>eA (xf k hL tl) λy1 y2=>⟨a,d,L,vs,e,z1,z2,y1,z3,y2,mR.gen k q⟩
theorem mR.gen (k:Mv X Y h h'): ∀{ps:List PV} {vs:List ay},mR X h ps vs->mR Y h' ps vs
 |[],_,r=>r
 |p::ps,vs,r=>by
  unfold mR at r ⊢
  exact nu r λv us e a b=>⟨v,us,e,mV.gen k a,mR.gen k b⟩
end
theorem mV.keepX (k:oV X h h') (r:mV X h p v):mV X h' p v:=r.gen λa o ha e z=>⟨ha,k a o ha e⟩
theorem mR.keepX (k:oV X h h') (r:mR X h p v):mR X h' p v:=r.gen λa o ha e z=>⟨ha,k a o ha e⟩
theorem mV.sub (k: ∀b,b∈Y->(∃o,h.get? b=aa o)->b∈X) (r:mV X h p v):mV Y h p v:=r.gen λa o ha e z=>⟨λhb=>ha (k a hb ⟨o,e⟩),e⟩
theorem mR.sub (k: ∀b,b∈Y->(∃o,h.get? b=aa o)->b∈X) (r:mR X h p v):mR Y h p v:=r.gen λa o ha e z=>⟨λhb=>ha (k a hb ⟨o,e⟩),e⟩
theorem mV.keep (k:m4 h h') (r:mV X h p v):mV X h' p v:=r.keepX λb o z e=>k b o e
theorem mR.keep (k:m4 h h') (r:mR X h p v):mR X h' p v:=r.keepX λb o z e=>k b o e
theorem mR.nil:mR X h [] []:=by rfl
theorem mR.cons (a:mV X h p v) (b:mR X h ps vs):mR X h (p::ps) (v::vs):=by
 exact ⟨v,vs,rfl,a,b⟩
theorem mR.len: ∀{ps:List PV} {vs:List ay},mR X h ps vs->vs.length=ps.length
 |[],vs,r=>by subst r;rfl
 |p::ps,vs,r=>by
  refine nu r ?_;clear r;intro v us Ub _ b;obtain rfl:=Ub
  simp [b.len]
theorem mR.get: ∀{ps:List PV} {vs:List ay} {i:Nat} {p:PV},mR X h ps vs->ps[i]? =aa p-> ∃v,vs[i]? =aa v/\mV X h p v
 |[],_,_,_,_,e=>by simp at e
 |p::ps,vs,i,q,r,e=>by
  refine nu r ?_;clear r;intro v us Ub a b;obtain rfl:=Ub
  cases i with
  |zero=>simp at e;subst e;exact ⟨v,rfl,a⟩
  |succ i=>simp at e;simpa using b.get e
theorem mR.append: ∀{ps qs:List PV} {vs ws:List ay},mR X h ps vs->mR X h qs ws->mR X h (ps++qs) (vs++ws)
 |[],_,vs,_,r,k=>by subst r;exact k
 |p::ps,_,vs,_,r,k=>by
  refine nu r ?_;clear r;intro v us Ub a b;obtain rfl:=Ub
  exact mR.cons a (b.append k)
section frame
variable {prog:aG} {w:au}
structure Fs where
 env:Env
 A:aX
 X:List aF
 I:aW->Prop
 mono: ∀h h',I h->m4 h h'->I h'
 live: ∀h,I h->oj X h
structure Ev (prog:aG) (w:au) (φ:Fs) (e:Expr) (p:PV):Prop where
 run: ∀s:aq,φ.I s.heap->aC (aI prog w) φ.A (bJ e φ.env) (λv s'=>bB s s'/\mV φ.X s'.heap p v) (λz z=>False) s
structure tS (prog:aG) (w:au) (φ:Fs) (pos:Pos) (es:List Expr) (ps:List PV):Prop where
 run: ∀s:aq,φ.I s.heap->aC (aI prog w) φ.A (spliced (fb pos (aE es φ.env))) (λvs s'=>bB s s'/\mR φ.X s'.heap ps vs) (λz z=>False) s
end frame
theorem mU (s:aq):bB s s:=⟨s.heap,s.toks,rfl,λz z e=>e⟩
theorem pt (s:aq) (n:Nat):bB s {s with toks:=n}:=⟨s.heap,n,rfl,λz z e=>e⟩
theorem mO (a:bB s s') (b:bB s' VC):bB s VC:=by
 obtain ⟨h,t,rfl,k⟩:=a
 obtain ⟨h',t',rfl,k'⟩:=b
 exact ⟨h',t',rfl,λx o e=>k' x o (k x o e)⟩
theorem mN (a:bB s s'):m4 s.heap s'.heap:=by
 obtain ⟨h,t,rfl,k⟩:=a
 exact k
theorem m9 (s:aq) (o:Obj) (n:Nat):bB s {s with heap:=s.heap.push o,toks:=n}:=⟨_,_,rfl,λz z e=>aO _ e⟩
theorem ng {α β:Type} {o:Option α} {f:α->Option β} {r:β} {G:Prop} (e:o.bind f=aa r) (k: ∀a,o=aa a->f a=aa r->G):G:=let ⟨a,p,q⟩:=bd.mp e;k a p q
theorem B9 {α:Type} {l:List α} (h:l.length=n+1): ∃a r,l=a::r/\r.length=n:=by
 cases l with
 |nil=>cases h
 |cons a r=>exact ⟨a,r,rfl,Nat.succ.inj h⟩
theorem vr {α:Type} {l:List α} (h:l.length=1): ∃a,l=[a]:=let ⟨a,r,e,h⟩:=B9 h;⟨a,by rw [e,aY.mp h]⟩
theorem FK {α:Type} {l:List α} (h:l.length=2): ∃a b,l=[a,b]:=let ⟨a,r,e,h⟩:=B9 h;let ⟨b,q⟩:=vr h;⟨a,b,by rw [e,q]⟩
theorem vx {α:Type} {l:List α} (h:l.length=3): ∃a b c,l=[a,b,c]:=let ⟨a,r,e,h⟩:=B9 h;let ⟨b,c,q⟩:=FK h;⟨a,b,c,by rw [e,q]⟩
theorem SZ {α:Type} {l:List α} (h:l.length=5): ∃a b c d e,l=[a,b,c,d,e]:=let ⟨a,r,e,h⟩:=B9 h;let ⟨b,r,e',h⟩:=B9 h;let ⟨c,d,f,q⟩:=vx h;⟨a,b,c,d,f,by rw [e,e',q]⟩
section
variable {prog:aG} {w:au} {φ:Fs}
theorem Fs.mono' (φ:Fs) (i:φ.I s.heap) (k:bB s s'):φ.I s'.heap:=φ.mono _ _ i (mN k)
abbrev wY (prog:aG) (w:au) (A:aX) (X:List aF) (t:Sem ay) (p:PV) (s:aq):Prop:=
 aC (aI prog w) A t (λv s'=>bB s s'/\mV X s'.heap p v) (λz z=>False) s
theorem wY.then {f:ay->Sem ay} (h:wY prog w A X t p s)
  (k: ∀v s',bB s s'->mV X s'.heap p v->wY prog w A X (f v) q s'):
  aC (aI prog w) A t (λv s'=>aC (aI prog w) A (f v) (λv VC=>bB s VC/\mV X VC.heap q v) (λz z=>False) s') (λz z=>False) s:=
 ab h (λv s' uu=>eA uu λa b=>ab (k v s' a b) (λz z uu=>eA uu λc d=>⟨mO a c,d⟩) λz z e=>e) λz z e=>e
def PQ (prog:aG) (w:au) (A:aX) (X:List aF) (t:ay->Sem ay) (p r:PV):Prop:=
 ∀(s:aq) (a:ay),oj X s.heap->mV X s.heap p a->wY prog w A X (t a) r s
def og (prog:aG) (w:au) (A:aX) (X:List aF) (t:ay->ay->Sem ay) (p q r:PV):Prop:=
 ∀(s:aq) (a b:ay),oj X s.heap->mV X s.heap p a->mV X s.heap q b->wY prog w A X (t a b) r s
theorem mQ (hl:Ev prog w φ l p) (hr:Ev prog w φ r q) (ho:og prog w φ.A φ.X (cf op) p q o):
  Ev prog w φ (.BinOp l op r pos) o:=.mk λs i=>
 j8 (ab (hl.run s i) (λa Ua uu=>eA uu λUc Uf=>ab (hr.run Ua (φ.mono' i Uc)) (λb Ud uu=>eA uu λUe Ur=>
  ab (ho Ud a b (φ.live _ (φ.mono' i (mO Uc Ue))) (Uf.keep (mN Ue)) Ur) (λz z uu=>eA uu λUm Ut=>⟨mO Uc (mO Ue Um),Ut⟩) λz z e=>e) λz z e=>e) λz z e=>e)
theorem r7 (hx:Ev prog w φ x p) (ho:PQ prog w φ.A φ.X (unaryOp op) p o):Ev prog w φ (.UnaryOp op x pos) o:=.mk λs i=>
 wpAny_UnaryOp (wY.then (hx.run s i) λa Ua Uc Uf=>ho Ua a (φ.live _ (φ.mono' i Uc)) Uf)
theorem vm (hl:Ev prog w φ l p) (hr:Ev prog w φ r q) (ho:og prog w φ.A φ.X (bP op) p q o)
  (hm:autoParam (lE op r=false) XZ):
  Ev prog w φ (.Compare l [op] [r] pos) o:=.mk λs i=>
 wpAny_Compare1 (ab (hl.run s i) (λa Ua uu=>eA uu λUc Uf=>ab (hr.run Ua (φ.mono' i Uc)) (λb Ud uu=>eA uu λUe Ur=>
  ab (ho Ud a b (φ.live _ (φ.mono' i (mO Uc Ue))) (Uf.keep (mN Ue)) Ur) (λz z uu=>eA uu λUm Ut=>⟨mO Uc (mO Ue Um),Ut⟩) λz z e=>e) λz z e=>e) λz z e=>e) hm
theorem mT:Ev prog w φ (.Constant (.int i) k pos) (.int i):=.mk λs z=>wpAny_Constant_int ⟨pt _ _,by exact ⟨_,rfl⟩⟩
theorem Kf:Ev prog w φ (.Constant (.str x) k pos) (.str x):=.mk λs z=>wpAny_Constant_str ⟨pt _ _,by exact ⟨_,rfl⟩⟩
theorem xd:Ev prog w φ (.Constant .none k pos) .none:=.mk λs z=>wpAny_Constant_none ⟨mU _,by rfl⟩
theorem sN:Ev prog w φ (.Constant (.bool b) k pos) (.bool b):=.mk λs z=>wpAny_Constant_bool ⟨mU _,by rfl⟩
theorem wm:Ev prog w φ (.Constant (.float x) k pos) (.float x):=.mk λs z=>λΓ p z=>⟨pt _ _,by exact ⟨_,rfl⟩⟩
theorem Mw:Ev prog w φ (.Constant (.bytes x) k pos) (.bytes x.toArray):=.mk λs z=>λΓ p z=>⟨pt _ _,by exact ⟨_,rfl⟩⟩
def EZ (env:Env) (h:aW) (x:Str) (v:ay):Prop:=
 (env.kindOf x=aa .local/\ ∃m,h.Ns env.locals m/\m x=aa v)\/
 (env.kindOf x=aa .cell/\ ∃c,env.cells.lookup x=aa c/\h.IsCell c (aa v))\/
 (env.kindOf x=aa .free/\(x==("__classdict__":Str))=false/\ ∃c,env.cells.lookup x=aa c/\h.IsCell c (aa v))
theorem ve (hk:env.scope.kind= .function) (L:EZ env s.heap x v) (h:Q v s):
  aC (aI prog w) A (loadName env x) Q E s:=by
 rcases L with ⟨a,m,b,c⟩|⟨a,c,b,d⟩|⟨a,n,c,b,d⟩
 ·exact wpAny_loadName_local hk a b c h
 ·exact wpAny_loadName_cell hk a b d h
 ·exact wpAny_loadName_free hk a b d h n
theorem Rl (hk:φ.env.scope.kind= .function) (hv: ∀h,φ.I h-> ∃v,EZ φ.env h x v/\mV φ.X h p v) (hd:(x==("__debug__":Str))=false):
  Ev prog w φ (.Name x pos) p:=.mk λs i=>by
 refine mX (hv _ i) λv L r=> ?_
 exact jC (ve hk L ⟨mU _,r⟩) hd
def B6 (h:aW) (x:Str) (v:ay):Prop:= ∃mg,h.Ns bn mg/\mg x=aa v
def Nw (h:aW) (x:Str) (v:ay):Prop:= ∃mg mb,h.Ns bn mg/\mg x=az/\h.Ns dh mb/\mb x=aa v
theorem Cm (hk:φ.env.scope.kind= .function) (hx:φ.env.kindOf x=aa .globalImplicit) (hgl:φ.env.globals=bn)
  (hg: ∀h,φ.I h->B6 h x v) (hr: ∀h,mV φ.X h p v) (hd:(x==("__debug__":Str))=false):Ev prog w φ (.Name x pos) p:=.mk λs i=>by
 refine mX (hg _ i) λmg n e=> ?_
 exact Name_function_global hk hx (loadGlobal_global (hgl▸n) e ⟨mU _,hr _⟩) hd
theorem JK (hk:φ.env.scope.kind= .function) (hx:φ.env.kindOf x=aa .globalImplicit) (hgl:φ.env.globals=bn) (hbl:φ.env.builtins=dh)
  (hg: ∀h,φ.I h->Nw h x v) (hd:(x==("__debug__":Str))=false):Ev prog w φ (.Name x pos) (.raw v):=.mk λs i=>by
 refine nw (hg _ i) λmg mb n e n' e'=> ?_
 exact Name_function_global hk hx (loadGlobal_builtin (hgl▸n) e (hbl▸n') e' ⟨mU _,by rfl⟩) hd
theorem mP:tS prog w φ pos [] []:=.mk λs z=>cG ⟨mU _,mR.nil⟩
theorem mM (h:Ev prog w φ e p) (hs:tS prog w φ pos es ps)
  (he:autoParam (aE (e::es) φ.env=(false,bJ e φ.env)::aE es φ.env) X1):tS prog w φ pos (e::es) (p::ps):=.mk λs i=>
 cB (ab (h.run s i) (λv Ua uu=>eA uu λUc Uf=>ab (hs.run Ua (φ.mono' i Uc)) (λvs Ud uu=>eA uu λUe Ur=>⟨mO Uc Ue,mR.cons (Uf.keep (mN Ue)) Ur⟩) λz z e=>e) λz z e=>e) he
theorem oY (l:oj X h):h.objs.size∉X:=λm=>let ⟨_,e⟩:=l _ m;absurd (aR e) (bY _)
theorem oE (hs:tS prog w φ pos es ps) (hz:ps.length<=bo):Ev prog w φ (.Tuple es k pos) (.tup ps):=.mk λs i=>
 wpAny_Tuple (ab (hs.run s i) (λvs Ua uu=>eA uu λUc Uf=>⟨by rw [Uf.len];exact hz,mO Uc (m9 _ _ _),by
  exact ⟨_,vs,rfl,oY (φ.live _ (φ.mono' i Uc)),⟨_,av _ rfl,rfl,_,rfl⟩,Uf.keep (mN (m9 Ua _ Ua.toks))⟩⟩) λz z e=>e)
theorem qo (hs:tS prog w φ pos es ps) (hz:ps.length<=bo):Ev prog w φ (.List es pos) (.list ps):=.mk λs i=>
 jD (ab (hs.run s i) (λvs Ua uu=>eA uu λUc Uf=>⟨by rw [Uf.len];exact hz,mO Uc (m9 _ _ _),by
  exact ⟨_,vs,rfl,oY (φ.live _ (φ.mono' i Uc)),⟨_,av _ rfl,rfl,_,rfl⟩,Uf.keep (mN (m9 Ua _ Ua.toks))⟩⟩) λz z e=>e)
structure Tr (prog:aG) (w:au) (φ:Fs) (e:Expr) (b:Bool):Prop where
 run: ∀s:aq,φ.I s.heap->aC (aI prog w) φ.A (isTrue e φ.env (bJ e φ.env)) (λc s'=>bB s s'/\c=b) (λz z=>False) s
def tY (prog:aG) (w:au) (A:aX) (X:List aF) (p:PV) (b:Bool):Prop:=
 ∀(s:aq) (v:ay),mV X s.heap p v->aC (aI prog w) A (truthy v) (λc s'=>bB s s'/\c=b) (λz z=>False) s
theorem m8 (hl:Ev prog w φ l p) (hr:Ev prog w φ r q) (ho:og prog w φ.A φ.X (bP op) p q (.bool b))
  (hm:autoParam (lE op r=false) XZ):Tr prog w φ (.Compare l [op] [r] pos) b:=.mk λs i=>
 wpAny_isTrue_Compare1 (ab (hl.run s i) (λa Ua uu=>eA uu λUc Uf=>ab (hr.run Ua (φ.mono' i Uc)) (λc Ud uu=>eA uu λUe Ur=>
  ab (ho Ud a c (φ.live _ (φ.mono' i (mO Uc Ue))) (Uf.keep (mN Ue)) Ur) (λv Uk uu=>eA uu λUm Ut=>by
   subst Ut
   exact fO ⟨mO Uc (mO Ue Um),rfl⟩) λz z e=>e) λz z e=>e) λz z e=>e) hm
theorem rF (h:Ev prog w φ e p) (t:tY prog w φ.A φ.X p b)
  (he:autoParam (isTrue e φ.env (bJ e φ.env)=(do let v <-bJ e φ.env;iv e.pos;gW [v] (truthy v))) X1):Tr prog w φ e b:=.mk λs i=>
 jF (ab (h.run s i) (λv Ua uu=>eA uu λUc Uf=>ab (t Ua v Uf) (λc Ud uu=>eA uu λUe e=>⟨mO Uc Ue,e⟩) λz z e=>e) λz z e=>e) he
theorem vn (h:Tr prog w φ x b):Tr prog w φ (.UnaryOp .Not x pos) (!b):=.mk λs i=>
 wpAny_isTrue_Not (ab (h.run s i) (λc s' uu=>eA uu λk e=>⟨k,by rw [e]⟩) λz z e=>e)
structure yD (prog:aG) (w:au) (φ:Fs) (op:BoolOp) (es:List Expr) (b:Bool):Prop where
 run: ∀s:aq,φ.I s.heap->aC (aI prog w) φ.A (allTrue op es φ.env) (λc s'=>bB s s'/\c=b) (λz z=>False) s
theorem BN (h:yD prog w φ op es b):Tr prog w φ (.BoolOp op es pos) b:=.mk λs i=>wpAny_isTrue_BoolOp (h.run s i)
theorem DH:yD prog w φ .And [] ai:=.mk λs z=>wpAny_allTrue_And_nil ⟨mU _,rfl⟩
theorem MK:yD prog w φ .Or [] false:=.mk λs z=>wpAny_allTrue_Or_nil ⟨mU _,rfl⟩
theorem rH (hx:Tr prog w φ x a) (hs:a=ai->yD prog w φ .And es b):yD prog w φ .And (x::es) (a&&b):=.mk λs i=>
 wpAny_allTrue_And_cons (ab (hx.run s i) (λc Ua uu=>eA uu λk e=>by
  subst e
  cases c with
  |false=>exact ⟨k,rfl⟩
  |true=>exact ab ((hs rfl).run Ua (φ.mono' i k)) (λc Ud uu=>eA uu λk' e'=>⟨mO k k',by rw [e'];rfl⟩) λz z e=>e) λz z e=>e)
theorem CS (hx:Tr prog w φ x a) (hs:a=false->yD prog w φ .Or es b):yD prog w φ .Or (x::es) (a||b):=.mk λs i=>
 iP (ab (hx.run s i) (λc Ua uu=>eA uu λk e=>by
  subst e
  cases c with
  |true=>exact ⟨k,rfl⟩
  |false=>exact ab ((hs rfl).run Ua (φ.mono' i k)) (λc Ud uu=>eA uu λk' e'=>⟨mO k k',by rw [e'];rfl⟩) λz z e=>e) λz z e=>e)
theorem D0 (ht:Tr prog w φ t c) (hb:c=ai->Ev prog w φ b p) (ho:c=false->Ev prog w φ o p):Ev prog w φ (.IfExp t b o pos) p:=.mk λs i=>
 wpAny_IfExp (ab (ht.run s i) (λd Ua uu=>eA uu λk e=>by
  subst e
  cases d with
  |true=>exact ab ((hb rfl).run Ua (φ.mono' i k)) (λc Ud uu=>eA uu λk' e'=>⟨mO k k',e'⟩) λz z e=>e
  |false=>exact ab ((ho rfl).run Ua (φ.mono' i k)) (λc Ud uu=>eA uu λk' e'=>⟨mO k k',e'⟩) λz z e=>e) λz z e=>e)
theorem Cw (hx:Ev prog w φ x p) (t:tY prog w φ.A φ.X p a) (hy:a=ai->Ev prog w φ y q) (hr:r=if a then q else p):
  Ev prog w φ (.BoolOp .And [x,y] pos) r:=.mk λs i=>
 wpAny_And2 (ab (hx.run s i) (λv Ua uu=>eA uu λUc Uf=>ab (t Ua v Uf) (λc Ud uu=>eA uu λUe e=>by
  subst e
  cases c with
  |true=>subst hr;exact ab ((hy rfl).run Ud (φ.mono' i (mO Uc Ue))) (λz z uu=>eA uu λUm Ut=>⟨mO Uc (mO Ue Um),Ut⟩) λz z e=>e
  |false=>subst hr;exact ⟨mO Uc Ue,Uf.keep (mN Ue)⟩) λz z e=>e) λz z e=>e)
def nK (s s':aq):Prop:= ∃h' tk,s'={s with heap:=h',toks:=tk}
theorem nK.trans (a:nK s s') (b:nK s' VC):nK s VC:=by
 obtain ⟨h,t,rfl⟩:=a;obtain ⟨h',t',rfl⟩:=b;exact ⟨h',t',rfl⟩
theorem nK.rfl' (s:aq):nK s s:=⟨_,_,rfl⟩
theorem nK.of (k:bB s s'):nK s s':=let ⟨h,t,e,_⟩:=k;⟨h,t,e⟩
structure Tp (prog:aG) (w:au) (I:aW->Prop) (env:Env) (A:aX) (b:List eh) (J:gV->aW->Prop):Prop where
 run: ∀s:aq,I s.heap->aC (aI prog w) A (iB b env) (λfl s'=>nK s s'/\J fl s'.heap) (λz z=>False) s
abbrev mZ (prog:aG) (w:au) (env:Env) (A:aX) (I:aW->Prop) (b:List eh) (J:gV->aW->Prop):Prop:=Tp prog w I env A b J
section
variable {env:Env} {A:aX} {I I':aW->Prop} {J:gV->aW->Prop}
theorem sO (h: ∀g,I g->J .next g):mZ prog w env A I [] J:=.mk λs i=>iG ⟨nK.rfl' s,h _ i⟩
theorem qZ {st:eh} (h: ∀s:aq,I s.heap->aC (aI prog w) A (exec st env) (λfl s'=>nK s s'/\match fl with|.next=>I' s'.heap|f=>J f s'.heap) (λz z=>False) s)
  (hb:mZ prog w env A I' b J):mZ prog w env A I (st::b) J:=.mk λs i=>by
 rw [ci]
 refine ae (ab (h s i) (λfl Ua uu=>eA uu λe j=> ?_) λz z e=>e)
 cases fl with
 |next=>exact ab (hb.run Ua j) (λfl' Ud uu=>eA uu λe' j'=>⟨e.trans e',j'⟩) λz z e=>e
 |brk=>exact aj ⟨e,j⟩
 |cont=>exact aj ⟨e,j⟩
 |ret v=>exact aj ⟨e,j⟩
theorem Ff: ∀(b:List eh) (p:Pos) (s:aq),
  iX M Γ (iB b env) (λfl p' s'=>match fl with|.next=>iX M Γ (iB c env) Q E p' s'|f=>Q f p' s') E p s->iX M Γ (iB (b++c) env) Q E p s
 |[],_,_,h=>by rw [execs_nil] at h;simpa using h
 |st::b,p,s,h=>by
  rw [bx,ci,di]
  rw [ci,di] at h
  refine cg M Γ _ (λfl Wx Ua Ul=> ?_) (λz z z e=>e) _ _ h
  cases fl with
  |next=>exact Ff b Wx Ua Ul
  |brk=>simpa using Ul
  |cont=>simpa using Ul
  |ret v=>simpa using Ul
theorem uL: ∀(b:List eh) (p:Pos) (s:aq),
  iX M Γ (iB (b++c) env) Q E p s->iX M Γ (iB b env) (λfl p' s'=>iX M Γ (match fl with|.next=>iB c env|f=>bG f) Q E p' s') E p s
 |[],_,_,h=>by rw [execs_nil];simpa using h
 |st::b,p,s,h=>by
  rw [bx,ci,di] at h
  rw [ci,di]
  refine cg M Γ _ (λfl Wx Ua Ul=> ?_) (λz z z e=>e) _ _ h
  cases fl with
  |next=>exact uL b Wx Ua Ul
  |brk=>simpa using Ul
  |cont=>simpa using Ul
  |ret v=>simpa using Ul
theorem G7 (h:mZ prog w env A I b (λfl g=>match fl with|.next=>I' g|f=>J f g)) (hc:mZ prog w env A I' c J):mZ prog w env A I (b++c) J:=.mk λs i Γ p hΓ=>by
 refine Ff b p s (cg _ Γ _ (λfl Wx Ua Ul=> ?_) (λz z z e=>e) _ _ (h.run s i Γ p hΓ))
 refine eA Ul λe j=> ?_
 cases fl with
 |next=>exact cg _ Γ _ (λfl' UX Ud ⟨e',j'⟩=>⟨e.trans e',j'⟩) (λz z z e=>e) _ _ (hc.run Ua j Γ Wx hΓ)
 |brk=>exact ⟨e,j⟩
 |cont=>exact ⟨e,j⟩
 |ret v=>exact ⟨e,j⟩
theorem tj {J':gV->aW->Prop} (h:mZ prog w env A I' b J) (hi: ∀g,I g->I' g) (hj: ∀f g,J f g->J' f g):mZ prog w env A I b J':=.mk λs i=>
 ab (h.run s (hi _ i)) (λfl s' uu=>eA uu λe j=>⟨e,hj _ _ j⟩) λz z e=>e
end
end
abbrev m7:=List (Str×PV)
structure Sc where
 env:Env
 A:aX
 g:aW
 own:List aF
 X0:List aF
noncomputable def Sc.X (c:Sc):List aF:=c.own++c.X0
noncomputable def Sc.at (c:Sc) (g:aW):Sc:={c with g:=g}
structure In (c:Sc) (σ:m7) (Λ:List (aF×List PV)) (h:aW):Prop where
 keep:m4 c.g h
 fresh: ∀a∈c.own,c.g.get? a=az
 live:oj c.own h
 liveX:oj c.X0 h
 locOwn:c.env.locals∈c.own
 loc: ∃m,h.Ns c.env.locals m/\ ∀x p,c.env.kindOf x=aa .local->σ.lookup x=aa p-> ∃v,m x=aa v/\mV c.X h p v
 cel: ∀x p,(c.env.kindOf x=aa .cell\/(c.env.kindOf x=aa .free/\(x==("__classdict__":Str))=false))->σ.lookup x=aa p-> ∃a v,c.env.cells.lookup x=aa a/\h.IsCell a (aa v)/\mV c.X h p v
 cob: ∀x a,c.env.cells.lookup x=aa a-> ∃v,h.IsCell a v
 kinds: ∀x p,σ.lookup x=aa p->c.env.kindOf x=aa .local\/c.env.kindOf x=aa .cell\/(c.env.kindOf x=aa .free/\(x==("__classdict__":Str))=false)
 lists: ∀q∈Λ,q.1∈c.own/\ ∃vs,h.PlainList q.1 vs.toArray/\mR c.X h q.2 vs
theorem In.liveAll (i:In c σ Λ h):oj c.X h:=λa ha=>by
 rcases ar.mp ha with q|q
 ·exact i.live a q
 ·exact i.liveX a q
theorem sR {h:aW} (p:h.PlainList a vs) (n:h.Ns b m):a≠b:=λe=>by
 obtain ⟨_,q⟩:=p
 obtain ⟨o,es,ep,q',d,_⟩:=n
 subst e
 rw [q] at q';obtain rfl:=am q';cases d
theorem qM {h:aW} (p:h.PlainList a vs) (n:h.IsCell b m):a≠b:=λe=>by
 obtain ⟨_,q⟩:=p
 obtain ⟨o,q',d⟩:=n
 subst e
 rw [q] at q';obtain rfl:=am q';cases d
theorem vH {h:aW} (p:h.IsCell a v) (n:h.Ns b m):a≠b:=λe=>by
 obtain ⟨o,q,d⟩:=p
 obtain ⟨o',es,ep,q',d',_⟩:=n
 subst e
 rw [q] at q';obtain rfl:=am q';rw [d] at d';cases d'
theorem In.gen {Vq X':List aF} (i:In c σ Λ h) (kg:m4 g' h') (fr: ∀a∈Vq,g'.get? a=az) (lv:oj Vq h') (lx:oj X' h') (lo:c.env.locals∈Vq) (ns: ∀m,h.Ns c.env.locals m->h'.Ns c.env.locals m)
  (tr: ∀b o,b≠c.env.locals->h.get? b=aa o->(∃v,o.data= .cell v)->h'.get? b=aa o) (k:Mv c.X (Vq++X') h h')
  (li: ∀q∈Λ',q.1∈Vq/\ ∃vs,h'.PlainList q.1 vs.toArray/\mR (Vq++X') h' q.2 vs):In ⟨c.env,A',g',Vq,X'⟩ σ Λ' h':=by
 refine mX i.loc λm n r=> ?_
 have ce: ∀{a v},h.IsCell a v->h'.IsCell a v:=λ⟨o,e,d⟩=>⟨o,tr _ o (vH ⟨o,e,d⟩ n) e ⟨_,d⟩,d⟩
 exact ⟨kg,fr,lv,lx,lo,⟨m,ns m n,λx p a b=>let ⟨v,e,q⟩:=r x p a b;⟨v,e,q.gen k⟩⟩,λx p a b=>let ⟨a,v,e,q,r⟩:=i.cel x p a b;⟨a,v,e,ce q,r.gen k⟩,
  λx a e=>let ⟨v,q⟩:=i.cob x a e;⟨v,ce q⟩,i.kinds,li⟩
theorem In.li {Vq Y:List aF} (i:In c σ Λ h) (ow: ∀a∈c.own,a∈Vq) (t: ∀b o,b≠c.env.locals->b∈c.own->h.get? b=aa o->h'.get? b=aa o) (k:Mv c.X Y h h'): ∀q∈Λ,q.1∈Vq/\ ∃vs,h'.PlainList q.1 vs.toArray/\mR Y h' q.2 vs:=λq hq=>
 let ⟨a,vs,b,r⟩:=i.lists q hq;⟨ow _ a,vs,b.at λo e=>t _ o (let ⟨_,n,_⟩:=i.loc;sR b n) a e,r.gen k⟩
theorem m4.mv (k:m4 h h'):Mv X X h h':=λa o ha e z=>⟨ha,k a o e⟩
theorem In.mono (i:In c σ Λ h) (k:m4 h h'):In c σ Λ h':=
 i.gen (i.keep.trans k) i.fresh (i.live.keep k) (i.liveX.keep k) i.locOwn (λm n=>n.at' λo e=>k _ _ e) (λb o z e z=>k b o e) k.mv (i.li (λz h=>h) (λb o z z e=>k b o e) k.mv)
theorem In.weak (i:In c σ Λ h) (k: ∀x p,σ'.lookup x=aa p->σ.lookup x=aa p):In c σ' Λ h where
 keep:=i.keep
 fresh:=i.fresh
 live:=i.live
 liveX:=i.liveX
 locOwn:=i.locOwn
 loc:=let ⟨m,n,r⟩:=i.loc;⟨m,n,λx p a b=>r x p a (k x p b)⟩
 cel:=λx p a b=>i.cel x p a (k x p b)
 cob:=i.cob
 kinds:=λx p b=>i.kinds x p (k x p b)
 lists:=i.lists
theorem LM {σ τ:m7} (h:(σ.all λq=>(τ.lookup q.1).isNone)=ai): ∀x p,σ.lookup x=aa p->(τ++σ).lookup x=aa p:=λx p e=>by
 rw [dX]
 have:τ.lookup x=az:=by
  induction σ with
  |nil=>simp at e
  |cons q σ ih=>
   obtain ⟨y,q⟩:=q
   simp only [iL,bI] at h
   by_cases hy:(x==y)=ai
   ·rw [beq_iff_eq.mp hy];simpa using h.1
   ·simp [aD,hy] at e;exact ih h.2 e
 rw [this,e];rfl
def fs (c:Sc) (σ:m7) (Λ:List (aF×List PV)):Fs:=⟨c.env,c.A,c.X,In c σ Λ,λz z i k=>i.mono k,λz i=>i.liveAll⟩
theorem In.look (i:In c σ Λ h) (e:σ.lookup x=aa p): ∃v,EZ c.env h x v/\mV c.X h p v:=by
 rcases i.kinds x p e with k|k|k
 ·refine mX i.loc λm n r=> ?_
  refine mX (r x p k e) λv a b=> ?_
  exact ⟨v,.inl ⟨k,m,n,a⟩,b⟩
 ·refine nu (i.cel x p (.inl k) e) λa v q1 q2 q3=> ?_
  exact ⟨v,.inr (.inl ⟨k,a,q1,q2⟩),q3⟩
 ·refine nu (i.cel x p (.inr k) e) λa v q1 q2 q3=> ?_
  exact ⟨v,.inr (.inr ⟨k.1,k.2,a,q1,q2⟩),q3⟩
section
variable {prog:aG} {w:au} {c:Sc} {σ:m7} {Λ:List (aF×List PV)}
theorem nF (e:σ.lookup x=aa p) (hk:autoParam (c.env.scope.kind= .function) X1) (hd:autoParam ((x==("__debug__":Str))=false) XX):Ev prog w (fs c σ Λ) (.Name x pos) p:=
 Rl hk (λh i=>In.look i e) hd
theorem BF {x:Str} {p:PV} {l:m7}:aD x ((x,p)::l)=aa p:=by simp [aD]
theorem Cy {x y:Str} (h:(x==y)=false) {p:Option PV} {q:PV} {l:m7} (k:aD x l=p):aD x ((y,q)::l)=p:=by simp [aD,h,k]
theorem oV.of_same (hs:cM a h h') (ha:a∈X):oV X h h':=λb o hb e=>by
 rw [hs.2 b (λq=>hb (q▸ha))];exact e
theorem In.store (i:In c σ Λ h) (hx:c.env.kindOf x=aa .local) (n:h.Ns c.env.locals m)
  (hm: ∀x p,c.env.kindOf x=aa .local->σ.lookup x=aa p-> ∃v,m x=aa v/\mV c.X h p v)
  (n':h'.Ns c.env.locals (λy=>if y=x then aa v else m y)) (hs:cM c.env.locals h h') (r:mV c.X h p v):In c ((x,p)::σ) Λ h':=by
 have kx:oV c.X h h':=oV.of_same hs (ax _ i.locOwn)
 have UK: ∀y q,aD y ((x,p)::σ)=aa q->(y=x/\q=p)\/(y≠x/\σ.lookup y=aa q):=λy q e=>by
  by_cases hy:y=x
  ·subst hy;simp [aD] at e;exact .inl ⟨rfl,e.symm⟩
  ·have:(y==x)=false:=by simpa using hy
   simp [aD,this] at e;exact .inr ⟨hy,e⟩
 have lv: ∀a,(∃o,h.get? a=aa o)-> ∃o,h'.get? a=aa o:=λa uu=>eE uu λo e=>by
  by_cases ha':a=c.env.locals
  ·subst ha';refine wK n' λo z z e z=> ?_;exact ⟨o,e⟩
  ·exact ⟨o,(hs.2 a ha').trans e⟩
 refine ⟨λb o e=> ?_,i.fresh,λa ha=>lv a (i.live a ha),λa ha=>lv a (i.liveX a ha),i.locOwn,⟨_,n',λy q hk e=> ?_⟩,λy q hk e=> ?_,λy a e=>let ⟨u,q⟩:=i.cob y a e;⟨u,q.sameBut hs (vH q n)⟩,λy q e=> ?_,λq hq=> ?_⟩
 ·rw [hs.2 b (λq=>by have:=i.fresh _ i.locOwn;rw [<-q,e] at this;exact tJ this)];exact i.keep _ _ e
 ·rcases UK y q e with ⟨rfl,rfl⟩|⟨hy,e⟩
  ·exact ⟨v,by simp,r.keepX kx⟩
  ·refine mX (hm y q hk e) λu e' r'=> ?_
   exact ⟨u,by simp [hy,e'],r'.keepX kx⟩
 ·rcases UK y q e with ⟨rfl,rfl⟩|⟨hy,e⟩
  ·rw [hx] at hk;rcases hk with hk|⟨hk,_⟩<;>cases hk
  ·refine nu (i.cel y q hk e) λa u q1 q2 q3=> ?_
   exact ⟨a,u,q1,q2.sameBut hs (vH q2 n),q3.keepX kx⟩
 ·rcases UK y q e with ⟨rfl,rfl⟩|⟨hy,e⟩
  ·exact .inl hx
  ·exact i.kinds y q e
 ·refine o8 (i.lists q hq) λa vs b r'=> ?_
  exact ⟨a,vs,b.at λo e=>by rw [hs.2 _ (sR b n)];exact e,r'.keepX kx⟩
structure oi (c:Sc) (x:Str) (a:aF):Prop where
 kind:c.env.kindOf x=aa .cell
 at':c.env.cells.lookup x=aa a
 own:a∈c.own
 only: ∀y,c.env.cells.lookup y=aa a->y=x
def sG (c:Sc) (x:Str):Prop:=c.env.kindOf x=aa .local\/ ∃a,oi c x a
theorem In.storeC (i:In c σ Λ h) (C:oi c x a)
  (n':h'.IsCell a (aa v)) (hs:cM a h h') (r:mV c.X h p v):In c ((x,p)::σ) Λ h':=by
 have kx:oV c.X h h':=oV.of_same hs (ax _ C.own)
 obtain ⟨v₀,hc⟩:=i.cob x a C.at'
 have UK: ∀y q,aD y ((x,p)::σ)=aa q->(y=x/\q=p)\/(y≠x/\σ.lookup y=aa q):=λy q e=>by
  by_cases hy:y=x
  ·subst hy;simp [aD] at e;exact .inl ⟨rfl,e.symm⟩
  ·have:(y==x)=false:=by simpa using hy
   simp [aD,this] at e;exact .inr ⟨hy,e⟩
 have lv: ∀b,(∃o,h.get? b=aa o)-> ∃o,h'.get? b=aa o:=λb uu=>eE uu λo e=>by
  by_cases ha':b=a
  ·subst ha';refine mX n' λo e j=> ?_;exact ⟨o,e⟩
  ·exact ⟨o,(hs.2 b ha').trans e⟩
 refine ⟨λb o e=> ?_,i.fresh,λa ha=>lv a (i.live a ha),λa ha=>lv a (i.liveX a ha),i.locOwn,?_,λy q hk e=> ?_,λy b e=> ?_,λy q e=> ?_,λq hq=> ?_⟩
 ·rw [hs.2 b (λq=>by have:=i.fresh _ C.own;rw [<-q,e] at this;exact tJ this)];exact i.keep _ _ e
 ·refine mX i.loc λm n hm=> ?_
  refine ⟨m,n.at' λo e=>by rw [hs.2 _ (vH hc n).symm];exact e,λy q hk e=> ?_⟩
  rcases UK y q e with ⟨rfl,rfl⟩|⟨hy,e⟩
  ·rw [C.kind] at hk;cases hk
  ·refine mX (hm y q hk e) λu e' r'=> ?_
   exact ⟨u,e',r'.keepX kx⟩
 ·rcases UK y q e with ⟨rfl,rfl⟩|⟨hy,e⟩
  ·exact ⟨a,v,C.at',n',r.keepX kx⟩
  ·refine nu (i.cel y q hk e) λb u q1 q2 q3=> ?_
   exact ⟨b,u,q1,q2.sameBut hs (λz=>hy (C.only y (z▸q1))),q3.keepX kx⟩
 ·by_cases hb:b=a
  ·subst hb;exact ⟨_,n'⟩
  ·let ⟨u,q⟩:=i.cob y b e;exact ⟨u,q.sameBut hs hb⟩
 ·rcases UK y q e with ⟨rfl,rfl⟩|⟨hy,e⟩
  ·exact .inr (.inl C.kind)
  ·exact i.kinds y q e
 ·refine o8 (i.lists q hq) λb vs q1 r'=> ?_
  exact ⟨b,vs,q1.at λo e=>by rw [hs.2 _ (qM q1 hc)];exact e,r'.keepX kx⟩
theorem rJ (i:In c σ Λ s.heap) (hx:sG c x) (r:mV c.X s.heap p v) (hk:c.env.scope.kind= .function):
  aC (aI prog w) A (storeName c.env x v) (λz s'=>nK s s'/\In c ((x,p)::σ) Λ s'.heap/\oV c.own s.heap s'.heap) (λz z=>False) s:=by
 rcases hx with hx|⟨a,C⟩
 ·refine mX i.loc λm n hm=> ?_
  exact iO hx n (λh' n' hs=>⟨⟨_,_,rfl⟩,i.store hx n hm n' hs r,oV.of_same hs i.locOwn⟩) (by rw [hk];rfl)
 ·refine eE (i.cob x a C.at') λv₀ hc=> ?_
  exact wpAny_storeName_cell hk C.kind C.at' hc λh' n' hs=>⟨⟨_,_,rfl⟩,i.storeC C n' hs r,oV.of_same hs C.own⟩
theorem t5 (i:In c σ Λ s.heap) (hx:sG c x) (r:mV c.X s.heap p v) (hk:c.env.scope.kind= .function):
  aC (aI prog w) A (storeName c.env x v) (λz s'=>nK s s'/\In c ((x,p)::σ) Λ s'.heap) (λz z=>False) s:=
 ab (rJ i hx r hk) (λz z uu=>rW uu λa b z=>⟨a,b⟩) λz z e=>e
theorem mS (he:Ev prog w (fs c σ Λ) e p) (hb:mZ prog w c.env c.A (In c ((x,p)::σ) Λ) b J)
  (hx:autoParam (sG c x) X2) (hk:autoParam (c.env.scope.kind= .function) X1) (hs:autoParam (cK e (aa (.Name x px)) pos.line c.env=bG false) X1):
  mZ prog w c.env c.A (In c σ Λ) (.Assign [.Name x px] e pos::b) J:=
 qZ (I':=In c ((x,p)::σ) Λ) (λs i=>cO (ab (he.run s i) (λv Ua uu=>eA uu λUc Uf=>
  ab (t5 (i.mono (mN Uc)) hx Uf hk) (λz Ud uu=>eA uu λUO Ui=>⟨(nK.of Uc).trans UO,Ui⟩) λz z e=>e) λz z e=>e) hs) hb
theorem nk (ht:Tr prog w (fs c σ Λ) t d)
  (hb:d=ai->mZ prog w c.env c.A (In c σ Λ) (b++rest) J) (ho:d=false->mZ prog w c.env c.A (In c σ Λ) (o++rest) J):
  mZ prog w c.env c.A (In c σ Λ) (.If t b o pos::rest) J:=.mk λs i Γ p hΓ=>by
 rw [ci,di,exec_If]
 simp only [di,ja]
 refine cg _ Γ _ (λe UX Ud ⟨k,q⟩=> ?_) (λz z z e=>e) _ _ (ht.run s i Γ _ hΓ)
 subst q
 cases e with
 |true=>exact uL b UX Ud (cg _ Γ _ (λfl z Uk ⟨e,j⟩=>⟨(nK.of k).trans e,j⟩) (λz z z e=>e) _ _ ((hb rfl).run Ud (i.mono (mN k)) Γ UX hΓ))
 |false=>exact uL o UX Ud (cg _ Γ _ (λfl z Uk ⟨e,j⟩=>⟨(nK.of k).trans e,j⟩) (λz z z e=>e) _ _ ((ho rfl).run Ud (i.mono (mN k)) Γ UX hΓ))
noncomputable def BO (fl:gV):ay:=match fl with|.ret v=>v|_=>.none
def uD (g:aW) (X:List aF) (p:PV):gV->aW->Prop:=λfl h=>m4 g h/\mV X h p (BO fl)
theorem GM (he:Ev prog w (fs c σ Λ) e p) (hg:m4 g c.g:=by exact m4.rfl) (hY: ∀a∈Y,a∈c.X:=by exact λa h=>h):
  mZ prog w c.env c.A (In c σ Λ) (.Return (aa e) pos::b) (λfl h=>(∃v,fl= .ret v)/\uD g Y p fl h):=
 .mk λs i=>by
  rw [ci]
  refine ae (jM (ab (he.run s i) (λv Ua uu=>eA uu λUc Uf=> ?_) λz z e=>e))
  exact aj ⟨nK.of Uc,⟨v,rfl⟩,hg.trans (i.mono (mN Uc)).keep,Uf.sub λb hb z=>hY b hb⟩
end
theorem CE (t:Sem α) (Q:α->Pos->aq->Prop) (p:Pos) (s:aq) (h:iX M Γ t Q E p s):iX M Γ t (λa p' s'=>s.toks<=s'.toks/\Q a p' s') E p s:=
 cg M Γ t (λz z z x=>x) (λz z z x=>x.2) _ _ (Sem.wp_toks M Γ s.toks t Q E p s (aN _) h)
theorem qm {t:Sem α} {Q:α->aq->Prop} (h:aC M A t (λa s'=>s.toks<=s'.toks->Q a s') E s):aC M A t Q E s:=λΓ p hΓ=>
 cg M Γ t (λa p' s' x=>x.2 x.1) (λz z z e=>e) _ _ (CE t _ p s (h Γ p hΓ))
section
variable {prog:aG} {w:au} {A:aX} {E:ay->aq->Prop} {s:aq}
def s8 (A:aX) (prog:aG) (w:au) (f:ay) (s:aq):Prop:= ∀(Q:Keeper->aq->Prop) (E:ay->aq->Prop),(∀k,Q k s)->aC (aI prog w) A (keeperOf f) Q E s
theorem rM {id:String}:s8 A prog w (.builtin id) s:=λQ E h=>aj (h _)
theorem um {id:String}:s8 A prog w (.type id) s:=λQ E h=>aj (h _)
theorem rE (ho:s.heap.get? a=aa o) (hd:o.data= .func fd):s8 A prog w (.ref a) s:=λQ E h=>by
 refine ae (wpAny_load ho ?_)
 rw [hd]
 exact aj (h _)
theorem nQ
  (h:aC (aI prog w) A (evalArgs f ai args Vp) (λa Ua=>s8 A prog w f Ua/\aC (aI prog w) A (ft f (first++a.pos) a.kw) Q E Ua) E s):
  aC (aI prog w) A (gJ pos f first args Vp) Q E s:=by
 refine ae (bL (ab h (λa Ua uu=>eA uu λhk Ul=>ae (eD (ae (hk _ _ λk=> ?_)))) λz z e=>e))
 have tail: ∀{t:Sem ay},aC (aI prog w) A t Q E Ua->aC (aI prog w) A (t >>= λr=>gW [r] point >>= λz=>bG r) Q E Ua:=
  λht=>ae (ab ht (λr Ud hr=>ae (bL (wpAny_point (aj hr)))) λz z x=>x)
 have mk: ∀{m:ay},aC (aI prog w) A (callMarked m f (first++a.pos) a.kw) Q E Ua:=λ{m} Γ p hΓ=>by
  unfold callMarked;rw [Sem.wp_keep];exact Ul Γ p hΓ
 have op: ∀{l:List ay},aC (aI prog w) A (operate l (ft f (first++a.pos) a.kw)) Q E Ua:=λ{l} Γ p hΓ=>by
  rw [Sem.wp_operate];exact Ul Γ p hΓ
 dsimp only
 split<;>first|exact tail mk|exact tail op|exact tail Ul|(split<;>first|exact tail Ul|exact tail mk)
theorem qv (h:aC (aI prog w) A (spliced (fb pos (aE (e::es) env))) (λvs Ua=>Q ⟨vs,[]⟩ Ua) E s)
  (he:aE (e::es) env=(false,bJ e env)::aE es env):aC (aI prog w) A (evalArgs f ai (fb pos (aE (e::es) env)) []) Q E s:=by
 rw [he] at h ⊢
 exact evalArgs_kw (by rfl) (ab h (λvs Ua Ul=>wpAny_evalAll_nil Ul) λz z e=>e)
theorem wx (h:Q ⟨[],[]⟩ s):aC (aI prog w) A (evalArgs f ai [] []) Q E s:=
 evalArgs_kw_nil (by rfl) (wpAny_evalAll_nil h)
end
section
variable {prog:aG} {w:au} {c:Sc} {σ:m7} {Λ:List (aF×List PV)}
def Ir (prog:aG) (w:au) (A:aX) (X:List aF) (I:aW->Prop) (f:ay) (ps:List PV) (ks:List (Str×PV)) (p:PV):Prop:=
 ∀(s:aq) (vs us:List ay),I s.heap->oj X s.heap->mR X s.heap ps vs->mR X s.heap (ks.map (·.2)) us->wY prog w A X (ft f vs ((ks.map (·.1)).zip us)) p s
def pZ (prog:aG) (w:au) (A:aX) (X:List aF) (I:aW->Prop) (f:ay) (ps:List PV) (p:PV):Prop:=
 ∀(s:aq) (vs:List ay),I s.heap->oj X s.heap->mR X s.heap ps vs->wY prog w A X (ft f vs []) p s
theorem Cd {id:Str} (hf:Ev prog w (fs c σ Λ) (.Name id np) (.raw f)) (ha:tS prog w (fs c σ Λ) pos (e::es) ps)
  (hk: ∀s:aq,In c σ Λ s.heap->s8 c.A prog w f s) (hc:pZ prog w c.A c.X (In c σ Λ) f ps p)
  (he:autoParam (aE (e::es) c.env=(false,bJ e c.env)::aE es c.env) X1):Ev prog w (fs c σ Λ) (.Call (.Name id np) (e::es) [] pos) p:=.mk λs i=>by
 refine cm (ab (hf.run s i) (λv Ua uu=>eA uu λUc Uf=> ?_) λz z e=>e)
 subst Uf
 refine nQ (qv (ab (ha.run Ua (i.mono (mN Uc))) (λvs Ud uu=>eA uu λUe Ur=> ?_) λz z e=>e) he)
 have Ui:=i.mono (mN (mO Uc Ue))
 exact ⟨hk _ Ui,ab (hc Ud vs Ui Ui.liveAll Ur) (λz z uu=>eA uu λUm Ut=>⟨mO Uc (mO Ue Um),Ut⟩) λz z e=>e⟩
theorem A5: ∀{ns:List Str} {ps:List PV} {vs:List ay},mR X h ps vs-> ∀(x:Str) (p:PV),(ns.zip ps).reverse.lookup x=aa p-> ∃v,(ns.zip vs).reverse.lookup x=aa v/\mV X h p v
 |[],_,_,_,_,_,e=>by simp at e
 |_::_,[],_,_,_,_,e=>by simp at e
 |n::ns,q::ps,vs,r,x,p,e=>by
  refine nu r ?_;clear r;intro v us Ub a b;obtain rfl:=Ub
  simp only [iU,fi,dX] at e ⊢
  cases h1:(ns.zip ps).reverse.lookup x with
  |some q'=>
   rw [h1] at e;simp at e;subst e
   refine mX (A5 b x _ h1) λu e' r'=> ?_
   exact ⟨u,by rw [e'];rfl,r'⟩
  |none=>
   rw [h1] at e
   have:(ns.zip us).reverse.lookup x=az:=by
    clear e
    have hl:=b.len
    clear a b
    induction ns generalizing ps us with
    |nil=>simp
    |cons m ns ih=>
     cases ps with
     |nil=>simp at hl;subst hl;rfl
     |cons p' ps=>
      cases us with
      |nil=>simp at hl
      |cons u us=>
       simp only [iU,fi,dX,Option.or_eq_none_iff] at h1 ⊢
       refine ⟨ih (ps:=ps) (us:=us) h1.1 (by simpa using hl),?_⟩
       have:=h1.2
       by_cases hm:(x==m)=ai
       ·simp [aD,hm] at this
       ·simp [aD,hm]
   rw [this]
   by_cases hm:(x==n)=ai
   ·simp [aD,hm] at e;subst e;exact ⟨v,by simp [aD,hm],a⟩
   ·simp [aD,hm] at e
end
theorem BZ (hx:k x=aa .local): ∀(UB:List (Str×ay)) (m:Str->Option ay),bindL k UB m x=(UB.reverse.lookup x).or (m x)
 |[],m=>by simp [bindL]
 |(n,v)::r,m=>by
  unfold bindL
  rw [BZ hx r]
  simp only [fi,dX]
  cases (r.reverse.lookup x) with
  |some _=>simp
  |none=>
   by_cases hn:x=n
   ·subst hn;simp [hx,aD]
   ·have:(x==n)=false:=by simpa using hn
    split<;>simp [aD,this,hn]
theorem BC (hx:k x≠aa .local): ∀(UB:List (Str×ay)) (m:Str->Option ay),bindC k UB m x=(UB.reverse.lookup x).or (m x)
 |[],m=>by simp [bindC]
 |(n,v)::r,m=>by
  unfold bindC
  rw [BC hx r]
  simp only [fi,dX]
  cases (r.reverse.lookup x) with
  |some _=>simp
  |none=>
   by_cases hn:x=n
   ·subst hn;simp [hx,aD]
   ·have:(x==n)=false:=by simpa using hn
    split<;>simp [aD,this,hn]
structure xx (h:aW) (a:aF) (fd:bz) (body:List eh):Prop where
 at': ∃o,h.get? a=aa o/\o.data= .func fd
 lim:h.NoLimit
 code:h.CodeRec fd.code fd.qualname
 body:fd.body= .stmts body
noncomputable def qr (ns:List Str) (ps:List PV):m7:=(ns.zip ps).reverse
noncomputable def wZ (cs:List (Str×aF)):List aF:=cs.filterMap λz=>cs.lookup z.1
theorem pI:b∈wZ cs↔ ∃n,cs.lookup n=aa b:=by
 unfold wZ
 rw [List.mem_filterMap]
 constructor
 ·rintro ⟨z,_,e⟩;exact ⟨z.1,e⟩
 ·rintro ⟨n,e⟩;exact ⟨(n,b),mem_of_lookup e,e⟩
def GU (fd:bz) (L:aF):List aF:=wZ (bv (L+1) fd.scope.names [])
def m5 (fd:bz) (a:aF) (A:aX) (X M:List aF) (g:aW) (L:aF):Sc:=⟨bf fd L a,A.deeper (bf fd L a),g,L::(GU fd L++M),X⟩
theorem Dr (e:(qr ns ps).lookup x=aa p):x∈ns:=by
 have: ∀(l:List (Str×PV)),l.lookup x=aa p-> ∃q∈l,q.1=x:=by
  intro l
  induction l with
  |nil=>intro e;simp at e
  |cons q l ih=>
   intro e
   obtain ⟨y,q⟩:=q
   by_cases hy:(x==y)=ai
   ·exact ⟨_,.head _,(beq_iff_eq.mp hy).symm⟩
   ·simp [aD,hy] at e
    refine mX (ih e) λq' m e'=> ?_
    exact ⟨q',.tail _ m,e'⟩
 obtain ⟨q,m,rfl⟩:=this _ e
 exact (List.of_mem_zip (List.mem_reverse.mp m)).1
theorem nM (h:aW):h.get? h.objs.size=az:=by
 cases e:h.get? h.objs.size with
 |none=>rfl
 |some o=>exact absurd (aR e) (bY _)
theorem oh {h:aW} (ha:h.objs.size<=a):h.get? a=az:=by
 cases e:h.get? a with
 |none=>rfl
 |some o=>exact absurd (aR e) (i7.mpr ha)
theorem pw (e:h.get? a=az):(hideAll h l).get? a=az:=by
 cases q:(hideAll h l).get? a with
 |none=>rfl
 |some o=>rw [bU _ q] at e;exact tJ e
structure AV (fd:bz) (ns:List Str):Prop where
 ns: ∀x∈ns,fd.scope.names.lookup x=aa .local\/(fd.scope.names.lookup x=aa .cell/\ ∀b,((bv b fd.scope.names []).lookup x).isSome=ai)
 kind:fd.scope.kind= .function
 co:fd.scope.isCoroutine=false
 gen:fd.scope.isGenerator=false
 cl:fd.closure=[]
 gl:fd.globals=bn
 bl:fd.builtins=dh
noncomputable def SP (l:List (Str×kG)) (x:Str):Bool:=match l.lookup x with
 |some .local=>ai
 |some .cell=>((bv 0 l []).lookup x).isSome
 |_=>false
def KF (fd:bz) (ns:List Str):Bool:=ns.all (SP fd.scope.names)&&(match fd.scope.kind with
 |.function=> !(fd.scope.isCoroutine||fd.scope.isGenerator)&&(fd.closure.isEmpty&&(bN fd.globals bn&&bN fd.builtins dh))
 |_=>false)
theorem ze (x:Str): ∀(l:List (Str×kG)) {p q:List (Str×aF)} (a b:Nat),(p.lookup x).isSome=(q.lookup x).isSome->((bv a l p).lookup x).isSome=((bv b l q).lookup x).isSome
 |[],_,_,_,_,h=>h
 |(n,k)::r,p,q,a,b,h=>by
  unfold bv
  split
  ·refine ze x r _ _ ?_
   cases e:x==n<;>simp [aD,e,h]
  ·exact ze x r a b h
theorem wh (h:KF fd ns=ai):AV fd ns:=by
 have h:=aP.mp h
 have h2:=h.2
 split at h2
 ·next e=>
  have h2:=aP.mp h2
  have h3:=aP.mp h2.2
  have h4:=aP.mp h3.2
  have h1:=Bool.or_eq_false_iff.mp (Bool.not_eq_true' _▸h2.1)
  refine ⟨λx hx=> ?_,e,h1.1,h1.2,List.isEmpty_iff.mp h3.1,bO h4.1,bO h4.2⟩
  have q:=br.mp h.1 x hx
  unfold SP at q
  split at q
  ·next e=>exact .inl e
  ·next e=>exact .inr ⟨e,λb=>(ze x _ b 0 rfl).trans q⟩
  ·exact oW q
 ·exact oW h2
theorem wE {K:aq->Prop}
  (d:xx s.heap a fd body) (UR:A.depth<dC) (lx:oj X s.heap) (lM:oj M s.heap) (hM: ∀b∈M,b∈X)
  (Uv:aC (aI prog w) A.in1 (ey fd ⟨vs,kw⟩) (λUB Ua=>bB s Ua/\K Ua/\ ∃us,UB=ns.zip us/\mR X Ua.heap qs us) (λe s'=>R (.error e) s') s)
  (hΛ: ∀q∈Λ,q.1∈M/\ ∃vs,s.heap.PlainList q.1 vs.toArray/\mR X s.heap q.2 vs)
  (F:AV fd ns)
  (h: ∀L Ua Ud,bB s Ua->K Ua->bB Ua Ud->Ua.toks<=Ud.toks->Ua.heap.get? L=az->In (m5 fd a A X M (hideAll Ua.heap M) L) (qr ns qs) Λ Ud.heap->aC (aI prog w) (A.deeper (bf fd L a)) (iB body (bf fd L a)) (λfl s'=>R (.ok (.ret (BO fl))) s')
    (λe s'=>aC (aI prog w) (A.deeper (bf fd L a)) (leaving (bf fd L a) e) (λy VC=>R (.error e) VC) (λe' VC=>R (.error e') VC) s') Ud):
  gx (aI prog w) A (.call (.ref a) ⟨vs,kw⟩) R s:=by
 refine mX d.at' λo ho hdat=> ?_
 refine codeAny_call_function UR ho hdat F.co F.gen d.body d.code ?_
 rw [F.cl]
 refine ab Uv (λUB Ua uu=>HN uu λUc hK us e Uf=> ?_) λy y e=>e
 subst e
 have U6: ∀x∈ns.zip us,fd.scope.names.lookup x.1=aa .local\/(fd.scope.names.lookup x.1=aa .cell/\((bv (Ua.heap.objs.size+1) fd.scope.names []).lookup x.1).isSome=ai):=λx hx=>by
  exact (F.ns _ (List.of_mem_zip hx).1).imp id λq=>⟨q.1,q.2 _⟩
 refine qm (wpAny_newFunctionEnv_cells F.kind U6 λenv he s' C tk=> ?_)
 subst he
 have Ue:bB Ua s':=C.done
 have k:=mO Uc Ue
 refine ⟨(d.lim.keeps (mN k)),codeAny_func ?_⟩
 have U8: ∀b,Ua.heap.objs.size<=b->Ua.heap.get? b=az:=λb hb=>oh hb
 have kind: ∀x,(bf fd Ua.heap.objs.size a).kindOf x=fd.scope.names.lookup x:=λx=>rfl
 have Vc: ∀b∈GU fd Ua.heap.objs.size,Ua.heap.objs.size<b:=λb hb=>by
  obtain ⟨n,e⟩:=pI.mp hb
  exact C.above n b (mem_of_lookup e)
 have sub: ∀b∈(m5 fd a A X M (hideAll s.heap M) Ua.heap.objs.size).X,(∃o,Ua.heap.get? b=aa o)->b∈X:=λb hb uu=>eE uu λo e=>by
  rcases ar.mp hb with q|q
  ·rcases ao.mp q with q|q
   ·subst q;rw [nM] at e;exact nE e
   ·rcases ar.mp q with q|q
    ·rw [oh (kS (Vc _ q))] at e;exact nE e
    ·exact hM _ q
  ·exact q
 have k':=mN k
 refine h Ua.heap.objs.size Ua s' Uc hK Ue tk (U8 _ (aN _)) {
  keep:=λb o e=>mN Ue b o (bU _ e)
  fresh:=λb hb=>by
   rcases ao.mp hb with q|q
   ·subst q;exact pw (U8 _ (aN _))
   ·rcases ar.mp q with q|q
    ·exact pw (U8 _ (kS (Vc _ q)))
    ·exact dK _ q
  live:=λb hb=>by
   rcases ao.mp hb with q|q
   ·subst q;refine wK C.toInCall.ns λo y y e y=> ?_;exact ⟨o,e⟩
   ·rcases ar.mp q with q|q
    ·obtain ⟨n,e⟩:=pI.mp q
     refine mX (C.cell n b e) λo e y=> ?_
     exact ⟨o,e⟩
    ·exact (lM.keep k') _ q
  liveX:=lx.keep k'
  locOwn:=.head _
  loc:=⟨_,C.toInCall.ns,λx p hx e=>by
   refine mX (A5 Uf x p e) λv e' r'=> ?_
   exact ⟨v,(BZ hx (ns.zip us) λy=>az).trans (by rw [e'];rfl),mV.keep (mN Ue) (r'.sub sub)⟩⟩
  cel:=λx p hx e=>by
   refine mX (A5 Uf x p e) λv e' r'=> ?_
   have nl:(bf fd Ua.heap.objs.size a).kindOf x≠aa .local:=λq=>by rcases hx with hx|⟨hx,_⟩<;>exact absurd (q.symm.trans hx) (by decide)
   rcases F.ns x (Dr e) with q|⟨q,z⟩
   ·exact absurd ((kind x).trans q) nl
   ·refine eE (jR.mp (z (Ua.heap.objs.size+1))) λb hb=> ?_
    refine ⟨b,v,hb,?_,mV.keep (mN Ue) (r'.sub sub)⟩
    have e2:=(BC nl (ns.zip us) λz=>az).trans (show _=aa v by rw [e'];rfl)
    have q2:s'.heap.IsCell b (bindC (bf fd Ua.heap.objs.size a).kindOf (ns.zip us) (λz=>az) x):=C.cell x b hb
    rw [e2] at q2
    exact q2
  cob:=λx b e=>⟨_,C.cell x b e⟩
  kinds:=λx p e=>by
   rcases F.ns x (Dr e) with q|⟨q,_⟩
   ·exact .inl q
   ·exact .inr (.inl q)
  lists:=λq hq=>by
   refine o8 (hΛ q hq) λhm vs p r=> ?_
   exact ⟨.tail _ (aM _ hm),vs,p.at λo e=>k' _ _ e,mR.keep k' (r.sub λb hb uu=>eE uu λo e=>sub b hb ⟨o,mN Uc _ _ e⟩)⟩}
theorem IX (k:m4 h h') (i:In (m5 fd a A X M (hideAll h' M) L) σ Λ WG):In (m5 fd a A X M (hideAll h M) L) σ Λ WG:=
 have kk:m4 (hideAll h M) (hideAll h' M):=λb o e=>bS _ (k b o (bU _ e)) λq=>absurd ((dK M q).symm.trans e) (λz=>nomatch z)
 ⟨kk.trans i.keep,λb hb=>CV kk (i.fresh b hb),i.live,i.liveX,i.locOwn,i.loc,i.cel,i.cob,i.kinds,i.lists⟩
theorem yz
  (d:xx s.heap a fd body) (UR:A.depth<dC) (lx:oj X s.heap) (lM:oj M s.heap) (hM: ∀b∈M,b∈X)
  (Uv:aC (aI prog w) A.in1 (ey fd ⟨vs,kw⟩) (λUB Ua=>bB s Ua/\ ∃us,UB=ns.zip us/\mR X Ua.heap qs us) (λe s'=>R (.error e) s') s)
  (hΛ: ∀q∈Λ,q.1∈M/\ ∃vs,s.heap.PlainList q.1 vs.toArray/\mR X s.heap q.2 vs) (F:AV fd ns)
  (h: ∀L Ud,bB s Ud->s.toks<=Ud.toks->s.heap.get? L=az->In (m5 fd a A X M (hideAll s.heap M) L) (qr ns qs) Λ Ud.heap->aC (aI prog w) (A.deeper (bf fd L a)) (iB body (bf fd L a)) (λfl s'=>R (.ok (.ret (BO fl))) s')
    (λe s'=>aC (aI prog w) (A.deeper (bf fd L a)) (leaving (bf fd L a) e) (λz VC=>R (.error e) VC) (λe' VC=>R (.error e') VC) s') Ud):
  gx (aI prog w) A (.call (.ref a) ⟨vs,kw⟩) R s:=
 wE (K:=λUa=>s.toks<=Ua.toks) d UR lx lM hM (qm (ab Uv (λz z uu tk=>eA uu λk r=>⟨k,tk,r⟩) λz z e=>e)) hΛ F λL Ua Ud Uc Vo Ue Vz hL i=>
  h L Ud (mO Uc Ue) (ch Vo Vz) (CV (mN Uc) hL) (IX (mN Uc) i)
theorem EJ (ns:List Str) {ks:List (Str×PV)}
  (hd: ∀h,I h->xx h a fd body) (UR:A.depth<dC)
  (Uv: ∀(s:aq) (vs us:List ay),I s.heap->mR X s.heap ps vs->mR X s.heap (ks.map (·.2)) us->aC (aI prog w) A.in1 (ey fd ⟨vs,(ks.map (·.1)).zip us⟩) (λUB Ua=>bB s Ua/\ ∃us,UB=ns.zip us/\mR X Ua.heap qs us) (λz z=>False) s)
  (F:AV fd ns) (h: ∀g L,I g->oj X g->mZ prog w (bf fd L a) (A.deeper (bf fd L a)) (In (m5 fd a A X [] g L) (qr ns qs) []) body (uD g X p)):Ir prog w A X I (.ref a) ps ks p:=by
 intro s vs us i lx r r'
 refine eo (yz (M:=[]) (ns:=ns) (qs:=qs) (Λ:=[]) (hd _ i) UR lx (λz h=>nomatch h) (λz h=>nomatch h) (ab (Uv s vs us i r r') (λz z h=>h) λz z e=>e.elim) (λz h=>nomatch h) F λL Ud k z z Ui=> ?_)
 refine ab ((h s.heap L i lx).run Ud Ui) (λfl s' ⟨⟨h',tk,e⟩,kk,rr⟩=> ?_) λz z e=>e.elim
 subst e
 refine o6 k ?_;clear k;intro UE Vz Ub Ue;obtain rfl:=Ub
 exact ⟨⟨h',tk,rfl,kk⟩,rr⟩
theorem G8 (ns:List Str)
  (hd: ∀h,I h->xx h a fd body) (UR:A.depth<dC)
  (Uv: ∀(s:aq) (vs:List ay),I s.heap->mR X s.heap ps vs->aC (aI prog w) A.in1 (ey fd ⟨vs,[]⟩) (λUB Ua=>bB s Ua/\ ∃us,UB=ns.zip us/\mR X Ua.heap qs us) (λz z=>False) s)
  (F:AV fd ns) (h: ∀g L,I g->oj X g->mZ prog w (bf fd L a) (A.deeper (bf fd L a)) (In (m5 fd a A X [] g L) (qr ns qs) []) body (uD g X p)):pZ prog w A X I (.ref a) ps p:=
 λs vs i lx r=>EJ (ks:=[]) ns hd UR (λs vs us i r z=>Uv s vs i r) F h s vs [] i lx r mR.nil
theorem xw {ns:List Str} (r:mR X s.heap ps vs)
  (hb: ∀vs:List ay,vs.length=ps.length->ey fd ⟨vs,[]⟩=bG (ns.zip vs)):
  aC (aI prog w) A (ey fd ⟨vs,[]⟩) (λUB Ua=>bB s Ua/\ ∃us,UB=ns.zip us/\mR X Ua.heap ps us) (λz z=>False) s:=by
 rw [hb vs r.len]
 exact aj ⟨mU _,vs,rfl,r⟩
noncomputable abbrev S (l:List Nat):Str:=⟨l.toArray⟩
theorem m6 (l:List Nat):(S l).length=l.length:=by simp [fJ]
theorem uT (a b:List Nat):S a++S b=S (a++b):=by
 show Str.append _ _=_
 unfold Str.append;simp
section
variable {prog:aG} {w:au} {A:aX} {X:List aF}
theorem qG (e:i=j):bB s {s with toks:=s.toks+1}/\mV X ({s with toks:=s.toks+1}:aq).heap (.int j) (.int i t):=⟨pt _ _,by exact ⟨_,by rw [e]⟩⟩
theorem vc (e:x=y):bB s {s with toks:=s.toks+1}/\mV X ({s with toks:=s.toks+1}:aq).heap (.str y) (.str x t):=⟨pt _ _,by exact ⟨_,by rw [e]⟩⟩
theorem n6:og prog w A X (cf .Add) (.int a) (.int b) (.int (a+b)):=λs x y z r q=>by
 obtain ⟨t,rfl⟩:=r;obtain ⟨u,rfl⟩:=q
 exact P.add_int (qG rfl)
theorem nU:og prog w A X (cf .Sub) (.int a) (.int b) (.int (a - b)):=λs x y z r q=>by
 obtain ⟨t,rfl⟩:=r;obtain ⟨u,rfl⟩:=q
 exact P.sub_int (qG rfl)
theorem By (h:IntMulOk a b):og prog w A X (cf .Mult) (.int a) (.int b) (.int (a*b)):=λs x y z r q=>by
 obtain ⟨t,rfl⟩:=r;obtain ⟨u,rfl⟩:=q
 exact P.mul_int (qG rfl) h
theorem pb (h:b≠0) (hb:b.natAbs<1073741824):og prog w A X (cf .FloorDiv) (.int a) (.int b) (.int (a.fdiv b)):=λs x y z r q=>by
 obtain ⟨t,rfl⟩:=r;obtain ⟨u,rfl⟩:=q
 exact floordiv_int h (qG rfl) (.inl (j0 hb))
theorem oA (h:b≠0):og prog w A X (cf .Mod) (.int a) (.int b) (.int (a.fmod b)):=λs x y z r q=>by
 obtain ⟨t,rfl⟩:=r;obtain ⟨u,rfl⟩:=q
 exact mod_int' h (qG rfl)
theorem Iu (hn:0<=n) (hsz:(eu a:Int)*n<=2^27):og prog w A X (cf .Pow) (.int a) (.int n) (.int (a^n.toNat)):=λs x y z r q=>by
 refine eE r ?_;clear r;intro t Ub;obtain rfl:=Ub;refine eE q ?_;clear q;intro u Ub;obtain rfl:=Ub
 exact pow_int hn hsz (qG rfl)
theorem oU:PQ prog w A X (unaryOp .USub) (.int a) (.int (-a)):=λs x z r=>by
 obtain ⟨t,rfl⟩:=r
 exact P.neg_int (qG rfl)
theorem rA:og prog w A X (bP .Lt) (.int a) (.int b) (.bool (decide (a<b))):=λs x y z r q=>by
 obtain ⟨t,rfl⟩:=r;refine eE q ?_;clear q;intro u Ub;obtain rfl:=Ub
 exact P.lt_int ⟨mU _,by rfl⟩
theorem y8:og prog w A X (bP .LtE) (.int a) (.int b) (.bool (decide (a<=b))):=λs x y z r q=>by
 obtain ⟨t,rfl⟩:=r;refine eE q ?_;clear q;intro u Ub;obtain rfl:=Ub
 exact P.le_int ⟨mU _,by rfl⟩
theorem zq:og prog w A X (bP .Gt) (.int a) (.int b) (.bool (decide (a>b))):=λs x y z r q=>by
 obtain ⟨t,rfl⟩:=r;refine eE q ?_;clear q;intro u Ub;obtain rfl:=Ub
 exact P.gt_int ⟨mU _,by rfl⟩
theorem qp:og prog w A X (bP .Eq) (.int a) (.int b) (.bool (a==b)):=λs x y z r q=>by
 obtain ⟨t,rfl⟩:=r;obtain ⟨u,rfl⟩:=q
 exact P.eq_int ⟨mU _,by rfl⟩
theorem oG (h:a.length+b.length<=bo):og prog w A X (cf .Add) (.str (S a)) (.str (S b)) (.str (S (a++b))):=λs x y _ r q=>by
 refine eE r ?_;clear r;intro t Ub;obtain rfl:=Ub;refine eE q ?_;clear q;intro u Ub;obtain rfl:=Ub
 refine P.add_str ?_
 split
 ·rename_i e
  have:a=[]:=by rw [m6] at e;exact aY.mp (by simpa using e)
  subst this
  exact ⟨mU _,by exact ⟨_,rfl⟩⟩
 ·split
  ·rename_i e
   have:b=[]:=by rw [m6] at e;exact aY.mp (by simpa using e)
   subst this
   exact ⟨mU _,by exact ⟨t,by rw [bK]⟩⟩
  ·refine ⟨?_,vc (uT a b)⟩
   rw [uT,m6,af];exact h
theorem sL (h:a.length+b.length<=bo):og prog w A X (inplaceOp .Add) (.str (S a)) (.str (S b)) (.str (S (a++b))):=λs x y _ r q=>by
 refine eE r ?_;clear r;intro t Ub;obtain rfl:=Ub;refine eE q ?_;clear q;intro u Ub;obtain rfl:=Ub
 refine P.iadd_str ?_
 split
 ·rename_i e
  have:a=[]:=by rw [m6] at e;exact aY.mp (by simpa using e)
  subst this
  exact ⟨mU _,by exact ⟨_,rfl⟩⟩
 ·split
  ·rename_i e
   have:b=[]:=by rw [m6] at e;exact aY.mp (by simpa using e)
   subst this
   exact ⟨mU _,by exact ⟨t,by rw [bK]⟩⟩
  ·refine ⟨?_,vc (uT a b)⟩
   rw [uT,m6,af];exact h
theorem sP:og prog w A X (inplaceOp .Add) (.int a) (.int b) (.int (a+b)):=λs x y z r q=>by
 obtain ⟨t,rfl⟩:=r;obtain ⟨u,rfl⟩:=q
 exact P.iadd_int (qG rfl)
theorem tm:og prog w A X (bP .Eq) (.str (S a)) (.str (S b)) (.bool (a==b)):=λs x y z r q=>by
 obtain ⟨t,rfl⟩:=r;refine eE q ?_;clear q;intro u Ub;obtain rfl:=Ub
 exact P.eq_str ⟨mU _,by rfl⟩
theorem ue:og prog w A X (bP .NotEq) (.str (S a)) (.str (S b)) (.bool (a !=b)):=λs x y z r q=>by
 obtain ⟨t,rfl⟩:=r;refine eE q ?_;clear q;intro u Ub;obtain rfl:=Ub
 exact P.ne_str ⟨mU _,by rfl⟩
theorem Bx (UG:Expr) (o i:ay): ∃l,subscripted UG false o i=operate l (getItem o i):=by
 cases UG with
 |Slice a b c=>cases c<;>exact ⟨_,rfl⟩
 |_=>exact ⟨_,rfl⟩
theorem vN {T id:String} (hT:s.TypeIs o T) (hl:fu (.type T) "__getitem__"=bG (aa (.builtin id)))
  (hg:aC (aI prog w) A (getItem o i) Q E s):aC (aI prog w) A (dS value UG o i) Q E s:=
 let ⟨_,e⟩:=Bx UG o i;tail_any hT hl hg e
theorem ni (h0:0<=k) (hp:ps[k.toNat]? =aa p) (hk:k<2^63):og prog w A X (dS value UG) (.list ps) (.int k) p:=λs x y z r q=>by
 refine nw r ?_;clear r;intro a vs Ub ha hl rs;obtain rfl:=Ub;obtain ⟨u,rfl⟩:=q
 refine mX (rs.get hp) λv e rv=> ?_
 exact vN hl.typeIs fP.lookup (wpAny_getItem_list hl h0 hk (by simpa using e) ⟨mU _,rv⟩)
theorem KG (h0:0<=k) (h:k.toNat<n):jf k n=aa k.toNat:=by
 unfold jf
 rw [if_neg (Int.not_lt.mpr h0)]
 exact if_pos (aP.mpr ⟨decide_eq_true h0,decide_eq_true ((Int.toNat_lt h0).mp h)⟩)
theorem rS (h0:0<=k) (hp:ps[k.toNat]? =aa p) (hk:k<2^63):og prog w A X (dS value UG) (.tup ps) (.int k) p:=λs x y z r q=>by
 refine nw r ?_;clear r;intro a vs Ub ha hl rs;obtain rfl:=Ub;obtain ⟨u,rfl⟩:=q
 refine mX (rs.get hp) λv e rv=> ?_
 have Uo:k.toNat<ps.length:=(aT.mp hp).1
 have hsz:=rs.len
 refine vN hl.typeIs slot_tuple_getitem.lookup (getItem_tuple hl (by exact (mK (.i (.L xJ xB) (.i (.B xB xA) (.L (.g xA) xB))) [] [_,_]) h0 hk) hk (j:=k.toNat) ?_ (by simpa using e) ⟨mU _,rv⟩)
 exact KG h0 (by rw [bq,hsz];exact Uo)
theorem qR (h0:0<=k) (hp:l[k.toNat]? =aa x) (hk:k<2^63):og prog w A X (dS value UG) (.str (S l)) (.int k) (.str (S [x])):=λs a y z r q=>by
 obtain ⟨t,rfl⟩:=r;obtain ⟨u,rfl⟩:=q
 have Uo:k.toNat<l.length:=(aT.mp hp).1
 refine vN (dR _ _ _) PySem.F.slot_str_getitem.lookup (P.getItem_str ?_ (c:=x) ?_ (vc rfl))
 ·simp;exact (mK (.i (.L xJ xA) (.i (.B xA xS) (.a (.L (.g xS) xA) (.B xA xS)))) [] [_]) h0 hk
 ·have:jf k (S l).length=aa k.toNat:=by
   rw [m6];exact KG h0 Uo
  rw [this];simpa using hp
theorem HI:pZ prog w A X I (.builtin "ord") [.str (S [c])] (.int c):=λs vs z z r=>by
 refine nu r ?_;clear r;intro v us Ub a b;obtain rfl:=Ub
 subst b;refine eE a ?_;clear a;intro t Ub;obtain rfl:=Ub
 exact P.ord_of_char (qG rfl)
theorem CH {c:Nat} (h:c<=1114111):pZ prog w A X I (.builtin "chr") [.int c] (.str (S [c])):=λs vs z z r=>by
 refine nu r ?_;clear r;intro v us Ub a b;obtain rfl:=Ub
 subst b;refine eE a ?_;clear a;intro t Ub;obtain rfl:=Ub
 exact P.chr_of_int (by simp;exact (mK (.i (.l xA (.c 1114111)) (.L (.k xA) (.c 1114111))) [_]) h) (vc (by rfl))
end
section
variable {prog:aG} {w:au} {φ:Fs}
theorem nA (hv:Ev prog w φ value p) (hs:Ev prog w φ UG q) (ho:og prog w φ.A φ.X (dS value UG) p q r):Ev prog w φ (.Subscript value UG pos) r:=.mk λs i=>
 Subscript_ (ab (hv.run s i) (λa Ua uu=>eA uu λUc Uf=>ab (hs.run Ua (φ.mono' i Uc)) (λb Ud uu=>eA uu λUe Ur=>
  ab (ho Ud a b (φ.live _ (φ.mono' i (mO Uc Ue))) (Uf.keep (mN Ue)) Ur) (λz z uu=>eA uu λUm Ut=>⟨mO Uc (mO Ue Um),Ut⟩) λz z e=>e) λz z e=>e) λz z e=>e)
end
noncomputable def Sc.addX (c:Sc) (is:List aF):Sc:={c with X0:=is++c.X0}
theorem In.reg (i:In c σ Λ h) (hk:m4 g' h) (hf: ∀a∈c.own,g'.get? a=az):In (c.at g') σ Λ h:=
 ⟨hk,hf,i.live,i.liveX,i.locOwn,i.loc,i.cel,i.cob,i.kinds,i.lists⟩
theorem In.unreg (i:In (c.at g') σ Λ h) (hg:m4 c.g g') (hf: ∀a∈c.own,c.g.get? a=az):In c σ Λ h:=
 ⟨hg.trans i.keep,hf,i.live,i.liveX,i.locOwn,i.loc,i.cel,i.cob,i.kinds,i.lists⟩
theorem w0 (i:In c σ Λ h):m4 c.g (hideAll h c.own):=λb o e=>
 bS _ (i.keep b o e) λq=>by rw [i.fresh b q] at e;exact nE e
theorem In.hide (i:In c σ Λ h):In (c.at (hideAll h c.own)) σ Λ h:=
 i.reg (λb o e=>bU _ e) λa ha=>dK _ ha
def NM (c:Sc) (is:List aF) (h:aW):Prop:= ∀a∈is,a∈c.X0/\a∉c.own/\c.g.get? a=az/\ ∀o,h.get? a=aa o-> ∀v,o.data≠ .cell v
theorem In.turn (i:In c σ Λ h) (hI:NM c is h) (k:oV is h h') (lv:oj is h'):In c σ Λ h':=by
 have kX:Mv c.X c.X h h':=λb o nb e z=>⟨nb,k b o (λq=>nb (aM _ (hI b q).1)) e⟩
 have own: ∀b∈c.own,∀o,h.get? b=aa o->h'.get? b=aa o:=λb hb o e=>k b o (λq=>(hI b q).2.1 hb) e
 exact i.gen (λb o e=>k b o (λq=>nomatch (hI b q).2.2.1.symm.trans e) (i.keep b o e)) i.fresh (λa ha=>let ⟨o,e⟩:=i.live a ha;⟨o,own a ha o e⟩)
  (λa ha=>(gz (a∈is)).elim (lv a) λhb=>let ⟨o,e⟩:=i.liveX a ha;⟨o,k _ _ hb e⟩) i.locOwn (λm n=>n.at' λo e=>own _ i.locOwn o e)
  (λb o z e q2=>k _ _ (λq=>eE q2 λv q2=>(hI _ q).2.2.2 o e v q2) e) kX (i.li (λz h=>h) (λb o z hb e=>own b hb o e) kX)
theorem AK {c:Sc}:a∈(c.addX is).X↔a∈is++c.X:=by
 simp only [Sc.addX,Sc.X,ar]
 constructor
 ·rintro (h|h|h)
  ·exact .inr (.inl h)
  ·exact .inl h
  ·exact .inr (.inr h)
 ·rintro (h|h|h)
  ·exact .inr (.inl h)
  ·exact .inl h
  ·exact .inr (.inr h)
theorem In.turnUn (i:In (c.addX is) σ Λ h) (hI:NM (c.addX is) is h) (hX: ∀a∈is,a∉c.X0) (k:oV is h h'):In c σ Λ h':=by
 have kX:Mv (c.addX is).X c.X h h':=λb o nb e z=>⟨λq=>nb (AK.mpr (aM _ q)),k b o (λq=>nb (aM _ (hI b q).1)) e⟩
 have own: ∀b∈c.own,∀o,h.get? b=aa o->h'.get? b=aa o:=λb hb o e=>k b o (λq=>(hI b q).2.1 hb) e
 exact i.gen (λb o e=>k b o (λq=>nomatch (hI b q).2.2.1.symm.trans e) (i.keep b o e)) i.fresh (λa ha=>let ⟨o,e⟩:=i.live a ha;⟨o,own a ha o e⟩)
  (λa ha=>let ⟨o,e⟩:=i.liveX a (aM _ ha);⟨o,k _ _ (λq=>hX a q ha) e⟩) i.locOwn (λm n=>n.at' λo e=>own _ i.locOwn o e)
  (λb o z e q2=>k _ _ (λq=>eE q2 λv q2=>(hI _ q).2.2.2 o e v q2) e) kX (i.li (λz h=>h) (λb o z hb e=>own b hb o e) kX)
theorem In.apart (i:In c σ Λ h) (k:m4 h h') (hn: ∀a∈is,h.get? a=az) (lv:oj is h'):In (c.addX is) σ Λ h':=
 have kX:Mv c.X (c.addX is).X h h':=λb o nb e z=>⟨λq=>(ar.mp (AK.mp q)).elim (λq=>nomatch (hn b q).symm.trans e) nb,k b o e⟩
 i.gen (i.keep.trans k) i.fresh (i.live.keep k) (λa ha=>(ar.mp ha).elim (lv a) (i.liveX.keep k a)) i.locOwn (λm n=>n.at' λo e=>k _ _ e) (λb o z e z=>k b o e) kX (i.li (λz h=>h) (λb o z z e=>k b o e) kX)
structure QD (prog:aG) (w:au) (A:aX) (X:List aF) (UP:aW) (Uh:Expr) (I:aF) (is:List aF) (Uq:List PV) (St:Nat->aW->Prop):Prop where
 item: ∀i p (s:aq) (Y:List aF),Uq[i]? =aa p->St i s.heap->oj Y s.heap->(∀b∈Y,(∃o,UP.get? b=aa o)->b∈X)->aC (aI prog w) A (l9 (.ref I)) (λr Ua=> ∃v,r=aa v/\aC (aI prog w) A (cT Uh (.ref I) v)
  (λz Ud=>nK s Ud/\oV is s.heap Ud.heap/\St (i+1) Ud.heap/\mV Y Ud.heap p v) (λz z=>False) Ua) (λz z=>False) s
 done: ∀(s:aq),St Uq.length s.heap->aC (aI prog w) A (l9 (.ref I)) (λr Ua=>r=az/\nK s Ua/\oV is s.heap Ua.heap) (λz z=>False) s
 frame: ∀i h h',St i h->m4 UP h'->(∀a∈is,∀o,h.get? a=aa o->h'.get? a=aa o)->St i h'
 keep: ∀i h,St i h->m4 UP h
 self: ∀i (s:aq) (Q:ay->aq->Prop) (E:ay->aq->Prop),St i s.heap->Q (.ref I) s->aC (aI prog w) A (pyIter (.ref I)) Q E s
 obj: ∀i h,St i h-> ∀a∈is,∃o,h.get? a=aa o/\ ∀v,o.data≠ .cell v
section
variable {prog:aG} {w:au} {c:Sc} {σ:m7} {Λ:List (aF×List PV)}
structure uF (prog:aG) (w:au) (c:Sc) (σ:m7) (Λ:List (aF×List PV)) (own:List aF) (Uh iter:Expr) (Uq:List PV):Prop where
 run: ∀s:aq,In c σ Λ s.heap->aC (aI prog w) c.A (bJ iter c.env) (λx s'=>aC (aI prog w) c.A (pyIter x) (λit Ud=> ∃Ua I is St,it= .ref I/\
  QD prog w c.A c.X (hideAll Ua.heap own) Uh I is Uq St/\St 0 Ud.heap/\bB s Ua/\bB Ua Ud/\(∀a∈is,Ua.heap.get? a=az)) (λz z=>False) s') (λz z=>False) s
def zf (prog:aG) (w:au) (c:Sc) (Uh:Expr) (p:PV) (bs:m7):Prop:=
 ∀(σ:m7) (Λ:List (aF×List PV)) (s:aq) (v:ay),In c σ Λ s.heap->mV c.X s.heap p v->aC (aI prog w) c.A (mc Uh c.env v) (λz s'=>nK s s'/\In c (bs++σ) Λ s'.heap/\oV c.own s.heap s'.heap) (λz z=>False) s
theorem nZ (hx:autoParam (sG c x) X2) (hk:autoParam (c.env.scope.kind= .function) X1):zf prog w c (.Name x px) p [(x,p)]:=λσ Λ s v i r=>
 dM (rJ i hx r hk)
theorem Ga {R:Result->aq->Prop} (I:Nat->aq->Prop)
  (Xl: ∀n s,I n s->aC (aI prog w) A (l9 it) (λr Ua=>match r with
   |none=>aC (aI prog w) A (iB orelse env) (λf Uk=>R (.ok f) Uk) (λz z=>False) Ua
   |some v=>aC (aI prog w) A (cT Uh it v) (λz Ud=>aC (aI prog w) A (mc Uh env v) (λz Uk=>aC (aI prog w) A (iB body env) (λf Uw=>match f with
     |.next|.cont=> ∃m,m<n/\I m Uw
     |.brk=>R (.ok .next) Uw
     |.ret v=>R (.ok (.ret v)) Uw) (λz z=>False) Uk) (λz z=>False) Ud) (λz z=>False) Ua) (λz z=>False) s)
  (n:Nat) (h:I n s):gx (aI prog w) A (.forLoop Uh it body orelse env) R s:=by
 refine codeAny_loop' rfl I (λn s hI=> ?_) n h
 refine wpAny_noted ?_
 refine ae (eD (ae (wpAny_onRaise (ab (Xl n s hI) (λr Ua Ul=> ?_) λz z e=>e.elim))))
 cases r with
 |none=>exact aj (.inr ⟨rfl,codeAny_block (ab Ul (λz z e=>e) λz z e=>e.elim)⟩)
 |some v=>
  refine ae (ab Ul (λz Ud UE=>ae (ab UE (λz Uk Uy=>ae (ab Uy (λf Uw Vm=> ?_) λz z e=>e.elim)) λz z e=>e.elim)) λz z e=>e.elim)
  cases f with
  |next=>exact aj (.inl ⟨rfl,Vm⟩)
  |cont=>exact aj (.inl ⟨rfl,Vm⟩)
  |brk=>exact aj Vm
  |ret v=>exact aj Vm
theorem Hk {α:Type} {l:List α} {V:α->PV} {bs:α->m7} (σs:Nat->m7) (Λs:Nat->List (aF×List PV))
  (hi:uF prog w c σ Λ c.own Uh iter (l.map V)) (h0:σs 0=σ) (Xz:Λs 0=Λ) (ha: ∀a is,a∈l->zf prog w (c.addX is) Uh (V a) (bs a))
  (hb: ∀i a g' is,l[i]? =aa a->m4 c.g g'->(∀a∈is,c.g.get? a=az)->mZ prog w c.env c.A (In ((c.addX is).at g') (bs a++σs i) (Λs i)) body (λfl h=>((fl= .next\/fl= .cont)/\In ((c.addX is).at g') (σs (i+1)) (Λs (i+1)) h)\/((∃v,fl= .ret v)/\J fl h)))
  (hr:mZ prog w c.env c.A (In c (σs l.length) (Λs l.length)) rest J) (hs:autoParam (∀x,cP iter c.env x=bG x) X3):
  mZ prog w c.env c.A (In c σ Λ) (.For Uh iter body [] pos::rest) J:=by
 refine qZ (I':=In c (σs l.length) (Λs l.length)) (λs i=> ?_) hr
 refine wpAny_For (ab (hi.run s i) (λx z Ul=>ab Ul (λit Ud UE=> ?_) λz z e=>e) λz z e=>e) hs
 refine BU UE ?_;clear UE;intro W6 I is St Ub W st2 UU Uc fresh;obtain rfl:=Ub
 have obj:=W.obj
 have Uj:=i.mono (mN UU)
 have Ue:=mO UU Uc
 have gf: ∀a∈is,c.g.get? a=az:=λa ha=>by
  cases e:c.g.get? a with
  |none=>rfl
  |some o=>have:=Uj.keep _ _ e;rw [fresh a ha] at this;exact nE this
 have Xf: ∀i h,St i h->NM (c.addX is) is h:=λj h st a ha=>⟨ax _ ha,λq=>(by let ⟨o,e⟩:=Uj.live a q;rw [fresh a ha] at e;exact nE e),gf a ha,λo e=>by
  obtain ⟨o',e',q⟩:=obj j h st a ha;rw [e] at e';obtain rfl:=am e';exact q⟩
 have lvs: ∀i h,St i h->oj is h:=λj h st a ha=>let ⟨o,e,_⟩:=obj j h st a ha;⟨o,e⟩
 have hY: ∀b∈(c.addX is).X,(∃o,(hideAll W6.heap c.own).get? b=aa o)->b∈c.X:=λb hb uu=>eE uu λo e=>by
  rcases ar.mp (AK.mp hb) with q|q
  ·have:=fresh b q;rw [bU _ e] at this;exact tJ this
  ·exact q
 refine Ga (λk s'=> ∃j,j<=l.length/\k=l.length - j/\nK s s'/\In (c.addX is) (σs j) (Λs j) s'.heap/\St j s'.heap) ?_ l.length ⟨0,cx _,rfl,nK.of Ue,by rw [h0,Xz];exact Uj.apart (mN Uc) fresh (lvs _ _ st2),st2⟩
 rintro k s' ⟨j,hj,rfl,ex,ij,st⟩
 by_cases Ux:j<l.length
 ·have hl:l[j]? =aa l[j]:=aA Ux
  refine ab (W.item j (V l[j]) s' (c.addX is).X (by rw [a7,hl];rfl) st ij.liveAll hY) (λr Ua Ul=> ?_) λz z e=>e
  refine mX Ul ?_;clear Ul;intro v Ub Ul;obtain rfl:=Ub
  refine ab Ul (λz Uk Uy=> ?_) λz z e=>e
  refine Ct Uy λUT Um st3 Ut=> ?_
  have Us:=ij.turn (Xf _ _ st) Um (lvs _ _ st3)
  refine ab (ha l[j] is (dn Ux) _ _ Uk v Us Ut) (λz Uw Vm=> ?_) λz z e=>e
  refine rW Vm λVD U4 UH=> ?_
  have offo: ∀b o,(hideAll W6.heap c.own).get? b=aa o->b∉c.own:=λb o e q=>by rw [dK _ q] at e;exact nE e
  have isO: ∀a∈is,a∉c.own:=λa ha=>(Xf _ _ st a ha).2.1
  have st4:=W.frame _ _ _ st3 (λb o e=>UH b o (offo b o e) (W.keep _ _ st3 b o e)) λa ha o e=>UH a o (isO a ha) e
  refine ab ((hb j l[j] _ is hl (w0 (c:=c.addX is) U4) gf).run Uw U4.hide) (λfl UQ Vn=> ?_) λz z e=>e
  refine eA Vn λWN Vn=> ?_
  rcases Vn with ⟨VH,Wb⟩|⟨⟨v,rfl⟩,Vn⟩
  case inr=>exact ⟨ex.trans (UT.trans (VD.trans WN)),Vn⟩
  have st5:=W.frame _ _ _ st4 (λb o e=>Wb.keep b o (bS _ (W.keep _ _ st4 b o e) (offo b o e))) λa ha o e=>Wb.keep a o (bS _ e (isO a ha))
  have WD:In (c.addX is) (σs (j+1)) (Λs (j+1)) UQ.heap:=Wb.unreg (w0 U4) i.fresh
  have qx: ∃m,m<l.length - j/\ ∃j,j<=l.length/\m=l.length - j/\nK s UQ/\In (c.addX is) (σs j) (Λs j) UQ.heap/\St j UQ.heap:=
   ⟨l.length - (j+1),by exact (mK (.i (.b xB xA) (.b (.s xA (.a xB xI)) (.s xA xB))) [_,_]) Ux,j+1,Ux,rfl,ex.trans (UT.trans (VD.trans WN)),WD,st5⟩
  rcases VH with rfl|rfl<;>exact qx
 ·have:j=l.length:=by exact (mK (.i (.l xA xB) (.i (.n (.b xA xB)) (.e xA xB))) [_,_]) hj Ux
  subst this
  refine ab (W.done s' (by rw [ah];exact st)) (λr Ua Ul=> ?_) λz z e=>e
  refine rW Ul ?_;clear Ul;intro Ub V7 Uc;obtain rfl:=Ub
  exact iG ⟨ex.trans V7,ij.turnUn (Xf _ _ st) (λa ha q=>by let ⟨o,e⟩:=Uj.liveX a q;rw [fresh a ha] at e;exact nE e) Uc⟩
theorem C6 {ι:Type} (P:ι->Prop) (σs:ι->m7) (Λs:ι->List (aF×List PV)) (m:ι->Nat) (tb:ι->Bool) (Vf:ι)
  (h0:P Vf) (Xz:σs Vf=σ) (h0'':Λs Vf=Λ) (ht: ∀i,P i->Tr prog w (fs c (σs i) (Λs i)) test (tb i))
  (hb: ∀i,P i->tb i=ai->mZ prog w c.env c.A (In c (σs i) (Λs i)) body (λfl h=>(fl= .next\/fl= .cont)/\ ∃j,P j/\m j<m i/\In c (σs j) (Λs j) h))
  (hr: ∀i,P i->tb i=false->mZ prog w c.env c.A (In c (σs i) (Λs i)) rest J):
  mZ prog w c.env c.A (In c σ Λ) (.While test body [] pos::rest) J:=by
 refine qZ (I':=λh=> ∃i,P i/\tb i=false/\In c (σs i) (Λs i) h) (λs i=> ?_) (.mk λs uu=>tL uu λi p t q=>(hr i p t).run s q)
 subst Xz h0''
 refine wpAny_While (codeAny_whileLoop (λk s'=> ∃j,P j/\k=m j/\nK s s'/\In c (σs j) (Λs j) s'.heap) ?_ (m Vf) ⟨Vf,h0,rfl,nK.rfl' s,i⟩)
 rintro k s' ⟨j,pj,rfl,ex,ij⟩
 refine ab ((ht j pj).run s' ij) (λb Ua uu=>eA uu λUc e=> ?_) λz z e=>e.elim
 subst e
 have Uj:=ij.mono (mN Uc)
 have ex1:=ex.trans (nK.of Uc)
 cases WU:tb j with
 |true=>
  simp only [if_true]
  refine ab ((hb j pj WU).run Ua Uj) (λfl Ud UE=> ?_) λz z e=>e.elim
  refine Qm UE λUO VH j' p' lt Ui=> ?_
  have qx: ∃k,k<m j/\ ∃j,P j/\k=m j/\nK s Ud/\In c (σs j) (Λs j) Ud.heap:=⟨_,lt,j',p',rfl,ex1.trans UO,Ui⟩
  rcases VH with rfl|rfl<;>exact qx
 |false=>
  simp only [a9,if_false]
  exact iG ⟨ex1,j,pj,WU,Uj⟩
end
section
variable {prog:aG} {w:au}
theorem FL (I:Nat->aq->Prop)
  (Xl: ∀n s,I n s->aC (aI prog w) A (l9 it) (λr Ua=>match r with
   |none=>R (.ok .next) Ua
   |some v=>aC (aI prog w) A (cT Uh it v) (λz Ua=>aC (aI prog w) A (mc Uh env v) (λz Ud=>
     aC (aI prog w) A (lR VS env) (λok Uk=>
      if ok=ai then aC (aI prog w) A (bJ elt env) (λx Uw=>
       aC (aI prog w) A (ft (.builtin "list.append") [UD,x]) (λz UQ=> ∃m,m<n/\I m UQ) (λz z=>False) Uw) (λz z=>False) Uk
      else ∃m,m<n/\I m Uk) (λz z=>False) Ud) (λz z=>False) Ua) (λz z=>False) Ua) (λz z=>False) s)
  (n:Nat) (h:I n s):
  gx (aI prog w) A (.compLoop (.ListComp elt [⟨Uh,iter,VS,0⟩] scope pos) 0 it UD env) R s:=by
 refine codeAny_loop rfl I (λn s hI=> ?_) n h
 show aC _ A ((compTurn (.ListComp elt [⟨Uh,iter,VS,0⟩] scope pos) 0 it UD env).onRaise (λx=>do noteFrame x env;theTreesLotGoes x)) _ _ s
 refine wpAny_noted ?_
 rw [compTurn_list]
 refine ae (eD (ae (ab (Xl n s hI) (λr Ua Ul=> ?_) λz z e=>e.elim)))
 cases r with
 |none=>exact aj Ul
 |some v=>
  refine ae (ab Ul (λz Ua Ul=>ae (ab Ul (λz Ud UE=> ?_) λz z e=>e.elim)) λz z e=>e.elim)
  have h₂':aC (aI prog w) A (iC VS ai λc r=>if r=ai then do let ok <-isTrue c env (bJ c env);bG (lr ok) else bG (lr r)) (λok Uk=>
      if ok=ai then aC (aI prog w) A (bJ elt env) (λx Uw=>
       aC (aI prog w) A (ft (.builtin "list.append") [UD,x]) (λz UQ=> ∃m,m<n/\I m UQ) (λz z=>False) Uw) (λz z=>False) Uk
      else ∃m,m<n/\I m Uk) (λz z=>False) Ud:=λΓ p hΓ=>by
   have:=UE Γ p hΓ
   unfold lR at this
   simpa using this
  refine ae (ab h₂' (λok Uk Uy=> ?_) λz z e=>e.elim)
  cases ok with
  |false=>exact aj ⟨rfl,Uy⟩
  |true=>
   exact ae (ae (ab Uy (λx Uw Vm=>ae (ab Vm (λz UQ Vn=>aj (aj ⟨rfl,Vn⟩)) λz z e=>e.elim)) λz z e=>e.elim))
structure zV (prog:aG) (w:au) (φ:Fs) (VS:List Expr) (b:Bool):Prop where
 run: ∀s:aq,φ.I s.heap->aC (aI prog w) φ.A (lR VS φ.env) (λc s'=>bB s s'/\c=b) (λz z=>False) s
theorem ot:zV prog w φ [] ai:=.mk λs z=>aj ⟨mU _,rfl⟩
theorem yQ (h:Tr prog w φ e b):zV prog w φ [e] b:=.mk λs i=>by
 unfold lR
 simp only [cF,ik,if_true]
 exact ae (ae (ae (ab (h.run s i) (λc s' hc=>aj (aj (aj hc))) λz z e=>e)))
end
section
variable {prog:aG} {w:au} {c:Sc} {σ:m7} {Λ:List (aF×List PV)}
def ny (c:Sc) (scope:Scope) (cl:List (Str×aF)) (C:aF) (g:aW) (Ug:List aF):Sc:=
 ⟨iY scope (bv (C+1) scope.names cl) C c.env,c.A,g,C::wZ (bv (C+1) scope.names []),Ug++c.X⟩
def vG (cells:List (Str×aF)):List (Str×aF)->Prop
 |[]=>True
 |z::r=>cells.lookup z.1=aa z.2/\vG cells r
theorem vG.mem: ∀{cl:List (Str×aF)},vG cells cl-> ∀z∈cl,cells.lookup z.1=aa z.2
 |_::_,h,_,.head _=>h.1
 |_::_,h,_,.tail _ m=>h.2.mem _ m
theorem qq: ∀(names:List (Str×kG)) (n:Nat) (UD:List (Str×aF)),bv n names UD=bv n names []++UD
 |[],n,UD=>rfl
 |(x,k)::r,n,UD=>by
  unfold bv
  split
  ·rw [qq r _ ((x,n)::UD),qq r _ [(x,n)],aJ];rfl
  ·exact qq r n UD
structure wC (c:Sc) (σ σf:m7) (scope:Scope) (cl:List (Str×aF)):Prop where
 at': ∀x p,σf.lookup x=aa p->σ.lookup x=aa p/\(c.env.kindOf x=aa .cell\/(c.env.kindOf x=aa .free/\(x==("__classdict__":Str))=false))/\
  ∀C,(bv C scope.names cl).lookup x=c.env.cells.lookup x/\((iY scope cl C c.env).kindOf x=aa .cell\/((iY scope cl C c.env).kindOf x=aa .free/\(x==("__classdict__":Str))=false))
theorem nR:wC c σ [] scope cl:=⟨λx p e=>by simp at e⟩
theorem oa (h:wC c σ σf scope cl) (h1:σ.lookup x=aa p) (h2:c.env.kindOf x=aa .cell\/(c.env.kindOf x=aa .free/\(x==("__classdict__":Str))=false))
  (h3: ∀C,(bv C scope.names cl).lookup x=c.env.cells.lookup x) (h4: ∀C,((iY scope cl C c.env).kindOf x=aa .cell\/((iY scope cl C c.env).kindOf x=aa .free/\(x==("__classdict__":Str))=false))):wC c σ ((x,p)::σf) scope cl:=⟨λy q e=>by
 by_cases hy:y=x
 ·subst hy;simp [aD] at e;subst e;exact ⟨h1,h2,λC=>⟨h3 C,h4 C⟩⟩
 ·have:(y==x)=false:=by simpa using hy
  simp [aD,this] at e;exact h.at' y q e⟩
theorem PlainList.push' (h:s.heap.PlainList D ys) (hsz:ys.size<=bo):
  aC (aI prog w) A (ft (.builtin "list.append") [.ref D,y]) (λz s'=>nK s s'/\s'.heap.PlainList D (ys.push y)/\cM D s.heap s'.heap) (λz z=>False) s:=
 lT (hsz:=hsz) h λh' hl hs=>⟨⟨_,_,rfl⟩,hl,hs⟩
theorem IW {code:ay}
  (hQ:Q (newEnv scope s.heap.objs.size globals (bv (s.heap.objs.size+1) scope.names closure) qual func code around builtins) {s with heap:=pushCells (s.heap.push {cls:=.type (if around.isSome then "dict" else "frame"),data:=.dict #[]}) scope.names}):
  aC M A (newFunctionEnv scope globals closure [] qual func code around builtins) Q E s:=by
 simp only [newFunctionEnv]
 refine ae (wpAny_alloc ?_)
 refine ae (wpAny_layCells _ (λname kind cells=>by cases hkc:kind==kG.cell<;>simp [hkc]) _ _ _ _ ?_)
 rw [show ({s with heap:=s.heap.push {cls:=.type (if around.isSome then "dict" else "frame"),data:=.dict #[]}}:aq).heap.objs.size=s.heap.objs.size+1 from cw ..]
 cases around with
 |none=>exact ae (aj (aj hQ))
 |some e=>exact ae (aj (aj hQ))
theorem In.other {h h':aW} (i:In c σ Λ h) (hD:D∈c.X) (hO:D∉c.own) (hc: ∀o,h.get? D=aa o-> ∀v,o.data≠ .cell v) (hg:c.g.get? D=az)
  (k: ∀b o,b≠D->h.get? b=aa o->h'.get? b=aa o) (lv: ∃o,h'.get? D=aa o):In c σ Λ h':=by
 have hD0:D∈c.X0:=(ar.mp hD).elim (λq=>absurd q hO) id
 exact In.turn (is:=[D]) i (λa ha=>by exact (ak.mp ha)▸(⟨hD0,hO,hg,hc⟩)) (λb o nb e=>k b o (λq=>nb (ak.mpr q)) e) (λa ha=>by exact (ak.mp ha)▸lv)
theorem DI {α:Type} {l:List α} {V:α->PV} {bs:α->m7} (σf:m7) (t:α->Bool) (o:α->PV)
  (hi:uF prog w c σ Λ [] Uh iter (l.map V)) (hc:wC c σ σf scope cl)
  (ha: ∀a C g Ug,a∈l->(∀b∈(ny c scope cl C g Ug).own,b∉c.X)->zf prog w (ny c scope cl C g Ug) Uh (V a) (bs a))
  (ht: ∀a C g Ug,a∈l->m4 c.g g->(∀b∈(ny c scope cl C g Ug).own++Ug,c.g.get? b=az)->zV prog w (fs (ny c scope cl C g Ug) (bs a++σf) []) VS (t a))
  (he: ∀a C g Ug,a∈l->t a=ai->m4 c.g g->(∀b∈(ny c scope cl C g Ug).own++Ug,c.g.get? b=az)->Ev prog w (fs (ny c scope cl C g Ug) (bs a++σf) []) elt (o a))
  (hsz:l.length<=bo) (VW: ∀a∈l,(σf.all λq=>((bs a).lookup q.1).isNone)=ai)
  (Vi:gL scope c.env=bG cl) (U7:vG c.env.cells cl) (U6:scope.kind= .function) (U2: ∀y∈scope.names,y.2= .local->scope.names.lookup y.1=aa .local)
  (hs: ∀x,cP iter c.env x=bG x)
  (i:In c σ Λ s.heap)
  (qx: ∀(Uk:aq) (C:aF) (v:ay),s.heap.get? C=az->(∃m,Uk.heap.Ns C m)->(∀h',cM C Uk.heap h'->bB s {Uk with heap:=h'}/\mV c.X h' (.list ((l.filter t).map o)) v)->
   compPost (aI prog w) c.A (λu u=>False) use Q v C (.ok .next) Uk):
  aC (aI prog w) c.A (comprehension (.ListComp elt [⟨Uh,iter,VS,0⟩] scope pos) scope c.env cp (newList []) false (bJ iter c.env) use) Q (λu u=>False) s:=by
 refine wpAny_comprehension_free (use:=use) rfl hs Vi U6 U2 ?_
 refine ab (hi.run s i) (λx u Ul=>ab Ul (λit Ud UE=> ?_) λu u e=>e.elim) λu u e=>e.elim
 refine BU UE ?_;clear UE;intro Ua I is St Ub W st2 UU Uc fresh;obtain rfl:=Ub
 have Uj:=i.mono (mN UU)
 have Ui:=Uj.mono (mN Uc)
 refine eI (IW ?_)
 generalize hD:Ud.heap.objs.size=D
 have hC:(Ud.heap.push {cls:=.type "list",dict:=az,data:=.seq ([]:List ay).toArray}).objs.size=D+1:=by rw [cw,hD]
 rw [hC]
 simp only [Option.isSome_some,if_true]
 generalize hH:pushCells ((Ud.heap.push {cls:=.type "list",dict:=az,data:=.seq ([]:List ay).toArray}).push {cls:=.type "dict",data:=.dict #[]}) scope.names=H
 have kk:m4 Ud.heap H:=λb o e=>hH▸kj _ _ _ _ (aO _ (aO _ e))
 have VY:=(mN Uc).trans kk
 have hDl:H.PlainList D #[]:=⟨_,hH▸kj _ _ _ _ (aO _ (hD▸av _ rfl))⟩
 have hCn:H.Ns (D+1) (λu=>az):=by
  rw [<-hH,<-hC];exact (aW.Ns.new _ (.type "dict")).keeps (kj _ _)
 have ok:=cellsFrom_ok scope.names ((Ud.heap.push {cls:=.type "list",dict:=az,data:=.seq ([]:List ay).toArray}).push {cls:=.type "dict",data:=.dict #[]}) (D+2) [] ⟨λu u hm=>(nomatch hm),List.Pairwise.nil⟩ (by rw [cw,hC];exact aN _)
 rw [cw,hC,hH] at ok
 have U8: ∀b,D<=b->Ud.heap.get? b=az:=λb hb=>oh (hD▸hb)
 have above1: ∀b,D<=b->Ua.heap.get? b=az:=λb hb=>by
  cases e:Ua.heap.get? b with
  |none=>rfl
  |some o=>have:=mN Uc _ _ e;rw [U8 b hb] at this;exact nE this
 generalize hc':ny c scope cl (D+1) Ua.heap (D::is)=c'
 have UJ: ∀b∈c'.own,D<=b:=λb hb=>by
  rw [<-hc'] at hb
  rcases ao.mp hb with q|q
  ·rw [q];exact iy _
  ·obtain ⟨n,e⟩:=pI.mp q
   exact ch (by exact mK (.l xA (.a xA xM)) [_]) (ok.empty n b (mem_of_lookup e)).2
 have ownX: ∀b∈(ny c scope cl (D+1) Ua.heap (D::is)).own,b∉c.X:=λb hb q=>by
  rw [hc'] at hb
  obtain ⟨o,e⟩:=Ui.liveAll _ q
  rw [U8 b (UJ b hb)] at e;exact nE e
 have hX: ∀b∈c'.X,b∈c'.own\/b=D\/b∈is\/b∈c.X:=λb hb=>by
  rcases ar.mp hb with q|q
  ·exact .inl q
  ·rw [<-hc'] at q
   rcases ar.mp q with q|q
   ·rcases ao.mp q with q|q
    ·exact .inr (.inl q)
    ·exact .inr (.inr (.inl q))
   ·exact .inr (.inr (.inr q))
 have hX': ∀b∈c.X,b∈c'.X:=λb hb=>by rw [<-hc'];exact aM _ (aM _ hb)
 have isX': ∀b∈is,b∈c'.X:=λb hb=>by rw [<-hc'];exact aM _ (ax _ (.tail _ hb))
 have DX':D∈c'.X:=by rw [<-hc'];exact aM _ (ax _ (.head _))
 have Xa: ∀b∈c'.X,(∃o,Ua.heap.get? b=aa o)->b∈c.X:=λb hb uu=>eE uu λo e=>by
  rcases hX b hb with q|q|q|q
  ·rw [above1 b (UJ b q)] at e;exact nE e
  ·rw [above1 b (gi q.symm)] at e;exact nE e
  ·rw [fresh b q] at e;exact nE e
  ·exact q
 have gn: ∀b,Ua.heap.get? b=az->c.g.get? b=az:=λb e=>by
  cases q:c.g.get? b with
  |none=>rfl
  |some o=>have:=Uj.keep _ _ q;rw [e] at this;exact nE this
 have hnew: ∀b∈(ny c scope cl (D+1) Ua.heap (D::is)).own++(D::is),c.g.get? b=az:=λb hb=>by
  rw [hc'] at hb
  rcases ar.mp hb with q|q
  ·exact gn b (above1 b (UJ b q))
  ·rcases ao.mp q with q|q
   ·exact gn b (above1 b (gi q.symm))
   ·exact gn b (fresh b q)
 have VQ:(c'.env)=iY scope (bv (D+1+1) scope.names cl) (D+1) c.env:=by rw [<-hc'];rfl
 have In₀:In c' σf [] H:={
  keep:=by rw [<-hc'];exact VY
  fresh:=λb hb=>by rw [<-hc'];exact above1 b (UJ b hb)
  live:=λb hb=>by
   rw [<-hc'] at hb
   rcases ao.mp hb with q|q
   ·rw [q];refine wK hCn λo u u e u=> ?_;exact ⟨o,e⟩
   ·obtain ⟨n,e⟩:=pI.mp q
    refine mX ((ok.empty n b (mem_of_lookup e)).1) λo e u=> ?_
    exact ⟨o,e⟩
  liveX:=λb hb=>by
   rw [<-hc'] at hb
   rcases ar.mp hb with q|q
   ·rcases ao.mp q with q|q
    ·rw [q];obtain ⟨_,e⟩:=hDl;exact ⟨_,e⟩
    ·refine mX (W.obj _ _ st2 b q) λo e u=> ?_;exact ⟨o,kk _ _ e⟩
   ·exact Ui.liveAll.keep kk b q
  locOwn:=by rw [<-hc'];exact .head _
  loc:=⟨_,by rw [VQ];exact hCn,λx p hx e=>by
   refine rW (hc.at' x p e) λu u h3=> ?_
   rw [VQ] at hx
   rcases (h3 (D+1)).2 with q|⟨q,_⟩
   ·exact absurd (hx.symm.trans q) (by decide)
   ·exact absurd (hx.symm.trans q) (by decide)⟩
  cel:=λx p u e=>by
   refine rW (hc.at' x p e) λh1 h2 h3=> ?_
   refine nu (Uj.cel x p h2 h1) λa v q1 q2 q3=> ?_
   refine ⟨a,v,?_,q2.keeps VY,mV.keep VY (q3.sub Xa)⟩
   rw [VQ]
   exact ((h3 (D+1+1)).1).trans q1
  cob:=λx a e=>by
   rw [VQ] at e
   have e:(bv (D+1+1) scope.names cl).lookup x=aa a:=e
   rw [qq] at e
   rcases ar.mp (mem_of_lookup e) with q|q
   ·exact ⟨_,(ok.empty x a q).1⟩
   ·obtain ⟨v,q⟩:=Uj.cob x a (U7.mem _ q)
    exact ⟨v,q.keeps VY⟩
  kinds:=λx p e=>by
   refine rW (hc.at' x p e) λu u h3=> ?_
   rw [VQ]
   rcases (h3 (D+1)).2 with q|q
   ·exact .inr (.inl q)
   ·exact .inr (.inr q)
  lists:=λq hq=>nomatch hq}
 have st0:St 0 H:=W.frame _ _ _ st2 (λb o e=>kk b o (W.keep _ _ st2 b o e)) λa ha o e=>kk a o e
 have Xf: ∀j h,St j h->NM c' is h:=λj h st a ha=>⟨(by rw [<-hc'];exact ax _ (.tail _ ha)),(λq=>by
   have:=UJ a q
   obtain ⟨o,e,_⟩:=W.obj _ _ st2 a ha
   rw [U8 a this] at e;exact nE e),(by rw [<-hc'];exact fresh a ha),λo e=>by
   obtain ⟨o',e',q⟩:=W.obj j h st a ha;rw [e] at e';obtain rfl:=am e';exact q⟩
 have lvs: ∀i h,St i h->oj is h:=λj h st a ha=>let ⟨o,e,_⟩:=W.obj j h st a ha;⟨o,e⟩
 have Dis:D∉is:=λq=>by obtain ⟨o,e,_⟩:=W.obj _ _ st2 D q;rw [U8 D (aN _)] at e;exact nE e
 have Dc:D∉c'.own:=λq=>by
  rw [<-hc'] at q
  rcases ao.mp q with q|q
  ·exact (mK (.n (.e xA (.a xA xI))) [_]) q
  ·obtain ⟨n,e⟩:=pI.mp q
   have:=(ok.empty n D (mem_of_lookup e)).2
   exact (mK (.n (.l (.a xA xM) xA)) [_]) this
 have ex₀:nK s {Ud with heap:=H}:=(nK.of (mO UU Uc)).trans ⟨H,Ud.toks,rfl⟩
 have Xj:gx (aI prog w) c.A (.compLoop (.ListComp elt [⟨Uh,iter,VS,0⟩] scope pos) 0 (.ref I) (.ref D) c'.env)
   (compPost (aI prog w) c.A (λu u=>False) use Q (.ref D) (D+1)) {Ud with heap:=H}:=by
  refine FL (λk s'=> ∃j,j<=l.length/\k=l.length - j/\nK s s'/\In c' σf [] s'.heap/\(∃vs:List ay,s'.heap.PlainList D vs.toArray/\mR c'.X s'.heap (((l.take j).filter t).map o) vs)/\St j s'.heap) ?_ l.length
   ⟨0,cx _,rfl,ex₀,In₀,⟨[],hDl,by simpa using mR.nil⟩,st0⟩
  rintro k s' ⟨j,hj,rfl,ex,ij,⟨vs,hl,hr⟩,st⟩
  by_cases Ux:j<l.length
  ·have hjl:l[j]? =aa l[j]:=aA Ux
   have ga: ∀b∈c'.X,(∃o,(hideAll Ua.heap []).get? b=aa o)->b∈c.X:=λb hb uu=>eE uu λo e=>Xa b hb ⟨o,bU _ e⟩
   refine ab (W.item j (V l[j]) s' c'.X (by rw [a7,hjl];rfl) st ij.liveAll ga) (λr Uk Uy=> ?_) λu u e=>e
   refine mX Uy ?_;clear Uy;intro v Ub Uy;obtain rfl:=Ub
   refine ab Uy (λu Uw Vm=> ?_) λu u e=>e
   refine Ct Vm λVD UH st4 Wz=> ?_
   have U4:=ij.turn (Xf _ _ st) UH (lvs _ _ st4)
   have hl4:Uw.heap.PlainList D vs.toArray:=hl.at λo e=>UH _ _ Dis e
   have hr₄:mR c'.X Uw.heap (((l.take j).filter t).map o) vs:=hr.keepX λb o nb e=>UH b o (λq=>nb (isX' b q)) e
   have Xr:=dn Ux
   refine ab (Q:=λu UQ=>nK Uw UQ/\In c' (bs l[j]++σf) [] UQ.heap/\oV c'.own Uw.heap UQ.heap) (by
    have:=ha l[j] (D+1) Ua.heap (D::is) Xr ownX σf [] Uw v
    rw [hc'] at this
    have q:=this U4 Wz
    rw [<-hc'] at q ⊢
    exact q) (λu UQ Vn=> ?_) λu u e=>e
   refine rW Vn λWN Wb VV=> ?_
   have hl₅:=hl4.at λo e=>VV _ _ Dc e
   have hr₅:mR c'.X UQ.heap (((l.take j).filter t).map o) vs:=hr₄.keepX λb o nb e=>VV b o (λq=>nb (ax _ q)) e
   have ownIs: ∀a∈is,a∉c'.own:=λa ha=>(Xf _ _ st a ha).2.1
   have st5:St (j+1) UQ.heap:=W.frame _ _ _ st4 (λb o e=>VV b o (λq=>by
    have:=above1 b (UJ b q);rw [bU _ e] at this;exact tJ this) (W.keep _ _ st4 b o e)) λa ha o e=>VV a o (ownIs a ha) e
   have WD:(fs (ny c scope cl (D+1) Ua.heap (D::is)) (bs l[j]++σf) []).I UQ.heap:=by
    show In (ny c scope cl (D+1) Ua.heap (D::is)) _ _ _
    rw [hc'];exact Wb
   have back: ∀{h:aW},In c' (bs l[j]++σf) [] h->In c' σf [] h:=λi=>i.weak (LM (VW _ Xr))
   have ht':=(ht l[j] (D+1) Ua.heap (D::is) Xr (i.keep.trans (mN UU)|>λk=>k) hnew).run UQ WD
   rw [show (fs (ny c scope cl (D+1) Ua.heap (D::is)) (bs l[j]++σf) []).env=c'.env by rw [hc'];rfl,show (fs (ny c scope cl (D+1) Ua.heap (D::is)) (bs l[j]++σf) []).A=c.A from rfl] at ht'
   have VH:((l.take (j+1)).filter t).map o=((l.take j).filter t).map o++(if t l[j]=ai then [o l[j]] else []):=by
    rw [dH Ux,List.filter_append,bi]
    cases h:t l[j]<;>simp [h]
   refine ab ht' (λb s₆ uu=>eA uu λWc e=> ?_) λu u e=>e
   subst e
   have Wp:=Wb.mono (mN Wc)
   have ex6:=ex.trans (VD.trans (WN.trans (nK.of Wc)))
   have hl6:=hl₅.at λo e=>mN Wc _ _ e
   have hr6:=mR.keep (mN Wc) hr₅
   have st6:St (j+1) s₆.heap:=W.frame _ _ _ st5 (λb o e=>mN Wc _ _ (W.keep _ _ st5 b o e)) λa u o e=>mN Wc _ _ e
   cases htj:t l[j] with
   |false=>
    simp only [a9,if_false]
    refine ⟨l.length - (j+1),by exact (mK (.i (.b xB xA) (.b (.s xA (.a xB xI)) (.s xA xB))) [_,_]) Ux,j+1,Ux,rfl,ex6,back Wp,⟨vs,hl6,?_⟩,st6⟩
    rw [VH,htj];simpa using hr6
   |true=>
    simp only [if_true]
    have he':=(he l[j] (D+1) Ua.heap (D::is) Xr htj (i.keep.trans (mN UU)) hnew).run s₆ (by
     show In (ny c scope cl (D+1) Ua.heap (D::is)) _ _ _
     rw [hc'];exact Wp)
    rw [show (fs (ny c scope cl (D+1) Ua.heap (D::is)) (bs l[j]++σf) []).env=c'.env by rw [hc'];rfl,show (fs (ny c scope cl (D+1) Ua.heap (D::is)) (bs l[j]++σf) []).A=c.A from rfl,
     show (fs (ny c scope cl (D+1) Ua.heap (D::is)) (bs l[j]++σf) []).X=c'.X by rw [hc'];rfl] at he'
    refine ab he' (λy WW uu=>eA uu λUV XI=> ?_) λu u e=>e
    have hl7:=hl6.at λo e=>mN UV _ _ e
    have hr7:=mR.keep (mN UV) hr6
    have i₇:=Wp.mono (mN UV)
    have st7:St (j+1) WW.heap:=W.frame _ _ _ st6 (λb o e=>mN UV _ _ (W.keep _ _ st6 b o e)) λa u o e=>mN UV _ _ e
    have Uo:vs.length<=j:=by rw [hr7.len,ah];exact ch (la _ _) (by rw [dm];exact mK (.l (.n xA xB) xA) [_,_])
    refine ab (PlainList.push' hl7 (by rw [bq];exact (mK (.i (.l xC xB) (.i (.b xD xC) (.i (.l xA xD) (.l xA xB)))) [_,_,_,_]) hsz Ux Uo)) (λu s₈ uu=>rW uu λe₈ hl8 sb=> ?_) λu u e=>e
    have kX:oV c'.X WW.heap s₈.heap:=λb o nb e=>by rw [sb.2 b (λq=>nb (q▸DX'))];exact e
    have kO: ∀b o,b≠D->WW.heap.get? b=aa o->s₈.heap.get? b=aa o:=λb o nb e=>by rw [sb.2 b nb];exact e
    refine ⟨l.length - (j+1),by exact (mK (.i (.b xB xA) (.b (.s xA (.a xB xI)) (.s xA xB))) [_,_]) Ux,j+1,Ux,rfl,ex6.trans ((nK.of UV).trans e₈),?_,⟨vs++[y],?_,?_⟩,?_⟩
    ·exact back (i₇.other (D:=D) DX' Dc (λo e v=>by obtain ⟨_,q⟩:=hl7;rw [q] at e;obtain rfl:=am e;exact λz=>nomatch z) (by rw [<-hc'];exact above1 D (aN _)) kO (let ⟨_,q⟩:=hl8;⟨_,q⟩))
    ·simpa using hl8
    ·rw [VH,htj];simp only [if_true]
     exact mR.append (hr7.keepX kX) (mR.cons (XI.keepX kX) mR.nil)
    ·exact W.frame _ _ _ st7 (λb o e=>kO b o (λq=>by rw [q] at e;have:=above1 D (aN _);rw [bU _ e] at this;exact tJ this) (W.keep _ _ st7 b o e)) λa ha o e=>kO a o (λq=>Dis (q▸ha)) e
  ·have:j=l.length:=by exact (mK (.i (.l xA xB) (.i (.n (.b xA xB)) (.e xA xB))) [_,_]) hj Ux
   subst this
   refine ab (W.done s' (by rw [ah];exact st)) (λr Uk Uy=> ?_) λz z e=>e
   refine rW Uy ?_;clear Uy;intro Ub UT Um;obtain rfl:=Ub
   have own3: ∀b∈c'.own,∀o,s'.heap.get? b=aa o->Uk.heap.get? b=aa o:=λb hb o e=>Um b o (λq=>(Xf _ _ st b q).2.1 hb) e
   refine mX ij.loc λm n z=> ?_
   replace n:=n.at' λo e=>own3 _ ij.locOwn o e
   refine qx Uk (D+1) (.ref D) (by
    cases e:s.heap.get? (D+1) with
    |none=>rfl
    |some o=>have:=mN UU _ _ e;rw [above1 _ (iy _)] at this;exact nE this) ⟨m,by rw [VQ] at n;exact n⟩ λh' sb=>⟨?_,?_⟩
   ·refine rU (ex.trans UT) λUy VJ e=> ?_
    refine ⟨h',VJ,by rw [e],λb o q=> ?_⟩
    have Wl:=mN UU _ _ q
    have hb:b<D:=by
     by_cases hb:D<=b
     ·rw [above1 b hb] at Wl;exact nE Wl
     ·exact Nat.lt_of_not_le hb
    show h'.get? b=aa o
    rw [sb.2 b (dj (gH hb))]
    have:=ij.keep b o (by rw [<-hc'];exact Wl)
    exact Um b o (λq=>by rw [fresh b q] at Wl;exact nE Wl) this
   ·have hl₃:Uk.heap.PlainList D vs.toArray:=hl.at λo e=>Um _ _ Dis e
    have WY:mR c'.X Uk.heap (((l.take l.length).filter t).map o) vs:=hr.keepX λb o nb e=>Um b o (λq=>nb (isX' b q)) e
    have kc:oV c'.X Uk.heap h':=λb o nb e=>by rw [sb.2 b (λq=>nb (by rw [q,<-hc'];exact ax _ (.head _)))];exact e
    rw [eJ] at WY
    refine ⟨D,vs,rfl,λq=> ?_,?_,(WY.keepX kc).sub λb hb z=>hX' b hb⟩
    ·obtain ⟨o,e⟩:=Ui.liveAll D q
     rw [U8 D (aN _)] at e;exact nE e
    ·obtain ⟨n',q⟩:=hl₃
     exact ⟨_,(sb.2 D (dj (dw D))).trans q,rfl,_,rfl⟩
 rw [VQ] at Xj
 exact codeAny_compStart_list Xj (W.self 0 _ _ _ st0 Xj)
theorem Ey {α:Type} {l:List α} {V:α->PV} {bs:α->m7} (σf:m7) (t:α->Bool) (o:α->PV)
  (hi:uF prog w c σ Λ [] Uh iter (l.map V)) (hc:wC c σ σf scope cl)
  (ha: ∀a C g Ug,a∈l->(∀b∈(ny c scope cl C g Ug).own,b∉c.X)->zf prog w (ny c scope cl C g Ug) Uh (V a) (bs a))
  (ht: ∀a C g Ug,a∈l->m4 c.g g->(∀b∈(ny c scope cl C g Ug).own++Ug,c.g.get? b=az)->zV prog w (fs (ny c scope cl C g Ug) (bs a++σf) []) VS (t a))
  (he: ∀a C g Ug,a∈l->t a=ai->m4 c.g g->(∀b∈(ny c scope cl C g Ug).own++Ug,c.g.get? b=az)->Ev prog w (fs (ny c scope cl C g Ug) (bs a++σf) []) elt (o a))
  (hsz:l.length<=bo) (VW: ∀a∈l,(σf.all λq=>((bs a).lookup q.1).isNone)=ai)
  (Vi:gL scope c.env=bG cl) (U7:vG c.env.cells cl) (U6:scope.kind= .function) (U2: ∀y∈scope.names,y.2= .local->scope.names.lookup y.1=aa .local)
  (hs:autoParam (∀x,cP iter c.env x=bG x) X3):
  Ev prog w (fs c σ Λ) (.ListComp elt [⟨Uh,iter,VS,0⟩] scope pos) (.list ((l.filter t).map o)):=.mk λs i=>by
 show aC _ _ (bJ _ c.env) _ _ s
 rw [eval_ListComp]
 exact DI σf t o hi hc ha ht he hsz VW Vi U7 U6 U2 hs i λUk C v hC hm h=>let ⟨m,hm⟩:=hm;⟨m,hm,h⟩
theorem pQ {α:Type} {l:List α} {V:α->PV} {bs:α->m7} (σf:m7) (t:α->Bool) (o:α->PV)
  (hi:uF prog w c σ Λ [] Uh iter (l.map V)) (hc:wC c σ σf scope cl)
  (ha: ∀a C g Ug,a∈l->zf prog w (ny c scope cl C g Ug) Uh (V a) (bs a))
  (ht: ∀a C g Ug,a∈l->m4 c.g g->(∀b∈(ny c scope cl C g Ug).own++Ug,c.g.get? b=az)->zV prog w (fs (ny c scope cl C g Ug) (bs a++σf) []) VS (t a))
  (he: ∀a C g Ug,a∈l->t a=ai->m4 c.g g->(∀b∈(ny c scope cl C g Ug).own++Ug,c.g.get? b=az)->Ev prog w (fs (ny c scope cl C g Ug) (bs a++σf) []) elt (o a))
  (hsz:l.length<=bo) (VW: ∀a∈l,(σf.all λq=>((bs a).lookup q.1).isNone)=ai)
  (Vi:gL scope c.env=bG cl) (U7:vG c.env.cells cl) (U6:scope.kind= .function) (U2: ∀y∈scope.names,y.2= .local->scope.names.lookup y.1=aa .local)
  (hs:autoParam (∀x,cP iter c.env x=bG x) X3):
  Ev prog w (fs c σ Λ) (.ListComp elt [⟨Uh,iter,VS,0⟩] scope pos) (.list ((l.filter t).map o)):=
 Ey σf t o hi hc (λa C g Ug h z=>ha a C g Ug h) ht he hsz VW Vi U7 U6 U2 hs
end
section
variable {prog:aG} {w:au} {c:Sc} {σ:m7} {Λ:List (aF×List PV)}
theorem t9 {UP:aW}
  (W:Walks prog w A I fp wr n P St') (Xv: ∀b∈wr,b∈is) (hfp: ∀b∈fp,b∈is\/ ∃o,UP.get? b=aa o) (hg: ∀b∈is,UP.get? b=az)
  (Xq: ∀i h,St' i h-> ∀a∈is,∃o,h.get? a=aa o/\ ∀v,o.data≠ .cell v) (Uo:n=Uq.length)
  (hP: ∀i p v h Y,Uq[i]? =aa p->P i v->m4 UP h->(∀b∈Y,(∃o,UP.get? b=aa o)->b∈X)->mV Y h p v)
  (hgo: ∀i p v (s:aq) (Q:Unit->aq->Prop) (E:ay->aq->Prop),Uq[i]? =aa p->P i v->St' (i+1) s.heap->Q () s->aC (aI prog w) A (cT Uh (.ref I) v) Q E s):
  QD prog w A X UP Uh I is Uq (λi h=>St' i h/\m4 UP h):=by
 have keep: ∀{h h':aW},m4 UP h->(∀b o,b∉wr->h.get? b=aa o->h'.get? b=aa o)->m4 UP h':=λ{h h'} k k' b o e=>
  k' b o (λq=>by rw [hg b (Xv b q)] at e;exact nE e) (k b o e)
 refine ⟨λi p s Y hi st lv hY=> ?_,λs st=> ?_,λi h h' st k ki=>⟨W.frame i h h' st.1 λb hb o e=> ?_,k⟩,λi h st=>st.2,λi s Q E st h=>W.self i s Q E st.1 h,λi h st=>Xq i h st.1⟩
 ·have V2:i<n:=by
   rw [Uo]
   exact (aT.mp hi).1
  refine W.item i s _ _ V2 st.1 λv h' tk pv st' k'=>⟨v,rfl,hgo i p v _ _ _ hi pv st' ⟨⟨_,_,rfl⟩,λb o nb e=>k' b o (λq=>nb (Xv b q)) e,⟨st',keep st.2 k'⟩,hP i p v _ Y hi pv (keep st.2 k') hY⟩⟩
 ·subst Uo
  exact W.done s _ _ st.1 λh' tk k'=>⟨rfl,⟨_,_,rfl⟩,λb o nb e=>k' b o (λq=>nb (Xv b q)) e⟩
 ·rcases hfp b hb with q|⟨o',e'⟩
  ·exact ki b q o e
  ·have:=st.2 b o' e'
   rw [e] at this;obtain rfl:=am this
   exact k b o e'
theorem yu {UP:aW} {Uq:List (List PV)}
  (W:WalksT prog w A I fp wr n P St' Mid) (Xv: ∀b∈wr,b∈is) (hfp: ∀b∈fp,b∈is\/ ∃o,UP.get? b=aa o) (hg: ∀b∈is,UP.get? b=az)
  (Xq: ∀i h,St' i h-> ∀a∈is,∃o,h.get? a=aa o/\ ∀v,o.data≠ .cell v) (Uo:n=Uq.length)
  (hP: ∀i p v h Y,Uq[i]? =aa p->P i v->m4 UP h->(∀b∈Y,(∃o,UP.get? b=aa o)->b∈X)->mR Y h p v.toList):
  QD prog w A X UP (.Tuple Vu ek epos) I is (Uq.map .tup) (λi h=>St' i h/\m4 UP h):=by
 have keep: ∀{h h':aW},m4 UP h->(∀b o,b∉wr->h.get? b=aa o->h'.get? b=aa o)->m4 UP h':=λ{h h'} k k' b o e=>
  k' b o (λq=>by rw [hg b (Xv b q)] at e;exact nE e) (k b o e)
 refine ⟨λi p s Y hi st lv hY=> ?_,λs st=> ?_,λi h h' st k ki=>⟨W.frame i h h' st.1 λb hb o e=> ?_,k⟩,λi h st=>st.2,λi s Q E st h=>W.self i s Q E st.1 h,λi h st=>Xq i h st.1⟩
 ·rw [a7] at hi
  refine mX (dT.mp hi) λps hi' Ub=> ?_;obtain rfl:=Ub
  clear hi
  have hi:=hi'
  have V2:i<n:=by
   rw [Uo]
   exact (aT.mp hi).1
  refine W.item i s _ _ V2 st.1 λT V6 h' tk pv hT tT mid k'=>⟨_,rfl,?_⟩
  refine W.go Vu ek epos i T _ _ _ mid λWG st'' k''=> ?_
  have kk: ∀b o,b∉wr->s.heap.get? b=aa o->WG.get? b=aa o:=λb o nb e=>k'' b o nb (k' b o nb e)
  have nT:=W.apart i T _ mid
  refine ⟨⟨_,_,rfl⟩,λb o nb e=>kk b o (λq=>nb (Xv b q)) e,⟨st'',keep st.2 kk⟩,?_⟩
  refine IF tT λo e1 e2 m e3=> ?_
  refine ⟨T,V6.toList,rfl,λq=> ?_,⟨o,k'' T o nT e1,e2,m,by simpa using e3⟩,hP i ps V6 _ Y hi pv (keep st.2 kk) hY⟩
  obtain ⟨o,e⟩:=lv T q
  exact absurd (aR e) (i7.mpr hT)
 ·rw [ah,<-Uo] at st
  exact W.done s _ _ st.1 λh' tk k'=>⟨rfl,⟨_,_,rfl⟩,λb o nb e=>k' b o (λq=>nb (Xv b q)) e⟩
 ·rcases hfp b hb with q|⟨o',e'⟩
  ·exact ki b q o e
  ·have:=st.2 b o' e'
   rw [e] at this;obtain rfl:=am this
   exact k b o e'
theorem pn {a b:Nat} (h:a<b\/b<a):a≠b:=by exact (mK (.i (.o (.b xA xB) (.b xB xA)) (.n (.e xA xB))) [_,_]) h
theorem mR.get' {i:Nat} (r:mR X h ps vs) (e:ps[i]? =aa p) (e':vs.toArray[i]? =aa v):mV X h p v:=by
 obtain ⟨u,q,r'⟩:=r.get e
 rw [lc,q] at e';obtain rfl:=am e';exact r'
theorem sD (ho: ∀b∈own,b∈X):oV X h (hideAll h own):=λb o nb e=>bS _ e λq=>nb (ho b q)
theorem qS {h:aW} (e: ∃o,h.get? a=aa o/\o.cls= .type T/\o.data= .fields vs): ∃o,h.get? a=aa o/\ ∀v,o.data≠ .cell v:=
 let ⟨o,e,_,d⟩:=e;⟨o,e,λv q=>by rw [d] at q;cases q⟩
theorem qJ (he:Ev prog w (fs c σ Λ) iter (.list ps)) (hh:c.A.handled=az)
  (ht:(∃x px,Uh= .Name x px)\/((∃Vu k pos,Uh= .Tuple Vu k pos)/\ ∀p∈ps,∃l,p= .tup l)) (ho: ∀b∈own,b∈c.X):uF prog w c σ Λ own Uh iter ps:=.mk λs i=>by
 refine ab (he.run s i) (λx Ua uu=>eA uu λUc Uf=> ?_) λz z e=>e
 refine nw Uf ?_;clear Uf;intro a vs Ub ha hl hr;obtain rfl:=Ub
 have hr:mR c.X Ua.heap ps vs:=hr
 have hn:a∉own:=λq=>ha (ho a q)
 refine mX (id hl) λo e1 e2=> ?_
 have ne:a≠Ua.heap.objs.size:=dj (aR e1)
 have Ue:=m9 Ua {cls:=.type "list_iterator",data:=.fields #[.ref a,.int 0 0]} Ua.toks
 have ga:(hideAll Ua.heap own).get? a=aa o:=bS _ e1 hn
 refine wpAny_pyIter_list hl ⟨Ua,_,[Ua.heap.objs.size],_,rfl,t9 (Walks.list hh Ua.heap.objs.size a ne vs.toArray) (λz h=>h) (λb hb=> ?_) (λb hb=> ?_) (λi h st b hb=> ?_) ?_ (λj p v h Y e1 e2 k hY=> ?_) (λj p v s Q E hj hv st q=> ?_),⟨⟨⟨_,av _ rfl,rfl,rfl⟩,hl.at λo e=>mN Ue _ _ e⟩,?_⟩,Uc,Ue,λb hb=> ?_⟩
 ·simp at hb
  rcases hb with rfl|rfl
  ·exact .inl (.head _)
  ·exact .inr ⟨o,ga⟩
 ·rw [ak.mp hb];exact pw (nM _)
 ·rw [ak.mp hb];exact qS st.1
 ·rw [bq,hr.len]
 ·exact mV.keep k ((hr.get' e1 e2 |>.keepX (sD ho)).sub hY)
 ·rcases ht with ⟨x,px,rfl⟩|⟨⟨Vu,ek,pos,rfl⟩,hp⟩
  ·exact bD (rfl:cT (.Name x px) _ v=bG ()) q
  ·refine eE (hp p (bu hj)) λl Ub=> ?_;obtain rfl:=Ub
   have:=hr.get' hj hv
   refine o6 this ?_;clear this;intro T _ Ub _;obtain rfl:=Ub
   exact jY st.1 q
 ·exact λb o e=>mN Ue _ _ (bU _ e)
 ·rw [ak.mp hb];exact nM _
theorem Ha (he:Ev prog w (fs c σ Λ) iter (.tup ps)) (hh:c.A.handled=az) (ho: ∀b∈own,b∈c.X):uF prog w c σ Λ own (.Name x px) iter ps:=.mk λs i=>by
 refine ab (he.run s i) (λx Ua uu=>eA uu λUc Uf=> ?_) λz z e=>e
 refine nw Uf ?_;clear Uf;intro a vs Ub ha hl hr;obtain rfl:=Ub
 have hr:mR c.X Ua.heap ps vs:=hr
 have hn:a∉own:=λq=>ha (ho a q)
 refine mX (id hl) λo e1 e2=> ?_
 have ne:a≠Ua.heap.objs.size:=dj (aR e1)
 have Ue:=m9 Ua {cls:=.type "tuple_iterator",data:=.fields #[.ref a,.int 0 0]} Ua.toks
 have ga:(hideAll Ua.heap own).get? a=aa o:=bS _ e1 hn
 refine et hl ⟨Ua,_,[Ua.heap.objs.size],_,rfl,t9 (kL hh Ua.heap.objs.size a ne vs.toArray) (λz h=>h) (λb hb=> ?_) (λb hb=> ?_) (λi h st b hb=> ?_) ?_ (λj p v h Y e1 e2 k hY=> ?_) (λj p v s Q E hj hv st q=> ?_),⟨⟨⟨_,av _ rfl,rfl,rfl⟩,aW.IsTuple.at hl λo e=>mN Ue _ _ e⟩,?_⟩,Uc,Ue,λb hb=> ?_⟩
 ·simp at hb
  rcases hb with rfl|rfl
  ·exact .inl (.head _)
  ·exact .inr ⟨o,ga⟩
 ·rw [ak.mp hb];exact pw (nM _)
 ·rw [ak.mp hb];exact qS st.1
 ·rw [bq,hr.len]
 ·exact mV.keep k ((hr.get' e1 e2 |>.keepX (sD ho)).sub hY)
 ·exact bD (rfl:cT (.Name _ px) _ v=bG ()) q
 ·exact λb o e=>mN Ue _ _ (bU _ e)
 ·rw [ak.mp hb];exact nM _
theorem Ee (e:(u.cps.toList.map λk=>PV.str ⟨#[k]⟩)[j]? =aa p) (hv:SignAt u j v):mV X h p v:=by
 obtain ⟨k,t,hk,rfl⟩:=hv
 rw [a7,Array.getElem?_toList,hk] at e
 obtain rfl:=am e
 exact ⟨t,rfl⟩
theorem O5 (he:Ev prog w (fs c σ Λ) iter (.str u)) (hh:c.A.handled=az):uF prog w c σ Λ own (.Name x px) iter (u.cps.toList.map λk=>.str ⟨#[k]⟩):=.mk λs i=>by
 refine ab (he.run s i) (λx Ua uu=>eA uu λUc Uf=> ?_) λz z e=>e
 refine eE Uf ?_;clear Uf;intro t Ub;obtain rfl:=Ub
 have one: ∀b∈[Ua.heap.objs.size],b=Ua.heap.objs.size:=λb hb=>ak.mp hb
 cases ha:u.cps.all (· <128)
 ·have Ue:=m9 Ua {cls:=.type "str_iterator",data:=.fields #[.str u t,.int 0 0]} Ua.toks
  refine wpAny_pyIter_wide ha ⟨Ua,_,[Ua.heap.objs.size],_,rfl,t9 (Walks.strWide hh Ua.heap.objs.size u t) (λz h=>h) (λb hb=>.inl hb) (λb hb=> ?_) (λi h st b hb=> ?_) ?_ (λj p v h Y e1 e2 k hY=>Ee e1 e2) (λj p v s Q E hj hv st q=>bD (rfl:cT (.Name _ px) _ v=bG ()) q),⟨⟨_,av _ rfl,rfl,rfl⟩,λb o e=>mN Ue _ _ (bU _ e)⟩,Uc,Ue,λb hb=> ?_⟩
  ·rw [one b hb];exact pw (nM _)
  ·rw [one b hb];exact qS st
  ·simp
  ·rw [one b hb];exact nM _
 ·have Ue:=m9 Ua {cls:=.type "str_ascii_iterator",data:=.fields #[.str u t,.int 0 0]} Ua.toks
  refine wpAny_pyIter_ascii ha ⟨Ua,_,[Ua.heap.objs.size],_,rfl,t9 (Walks.strAscii hh Ua.heap.objs.size u t) (λz h=>h) (λb hb=>.inl hb) (λb hb=> ?_) (λi h st b hb=> ?_) ?_ (λj p v h Y e1 e2 k hY=>Ee e1 e2) (λj p v s Q E hj hv st q=>bD (rfl:cT (.Name _ px) _ v=bG ()) q),⟨⟨_,av _ rfl,rfl,rfl⟩,λb o e=>mN Ue _ _ (bU _ e)⟩,Uc,Ue,λb hb=> ?_⟩
  ·rw [one b hb];exact pw (nM _)
  ·rw [one b hb];exact qS st
  ·simp
  ·rw [one b hb];exact nM _
structure Fh (prog:aG) (w:au) (φ:Fs) (e:Expr) (T:String) (ps:List PV):Prop where
 run: ∀s:aq,φ.I s.heap-> ∀Q:ay->aq->Prop,(∀s' vs,bB s s'->mR φ.X s'.heap ps vs->aC (aI prog w) φ.A (ft (.type T) vs) Q (λz z=>False) s')->aC (aI prog w) φ.A (bJ e φ.env) Q (λz z=>False) s
theorem tq {id:Str} (hf:Ev prog w (fs c σ Λ) (.Name id np) (.raw (.type T))) (ha:tS prog w (fs c σ Λ) pos (e::es) ps)
  (he:autoParam (aE (e::es) c.env=(false,bJ e c.env)::aE es c.env) X1):Fh prog w (fs c σ Λ) (.Call (.Name id np) (e::es) [] pos) T ps:=.mk λs i Q h=>by
 refine cm (ab (hf.run s i) (λv Ua uu=>eA uu λUc Uf=> ?_) λz z e=>e)
 subst Uf
 refine nQ (qv (ab (ha.run Ua (i.mono (mN Uc))) (λvs Ud uu=>eA uu λUe Ur=> ?_) λz z e=>e) he)
 exact ⟨um,h Ud vs (mO Uc Ue) Ur⟩
theorem zt {n:Nat}
  (he: ∀s:aq,(fs c σ Λ).I s.heap->aC (aI prog w) c.A (bJ iter c.env) (λv s'=>bB s s'/\ ∃r t u z,v= .ref r/\IsRange s'.heap r a b 1 t u z) (λy y=>False) s)
  (hn:jl a b 1=(n:Int)) (hs:jJ a b 1=ai) (hh:c.A.handled=az):uF prog w c σ Λ own (.Name x px) iter ((ag n).map λ(i:Nat)=>.int (a+i)):=.mk λs i=>by
 refine ab (he s i) (λx Ua uu=>eA uu λUc Uf=> ?_) λy y e=>e
 refine Qi Uf ?_;clear Uf;intro r t u z Ub hr;obtain rfl:=Ub
 have one: ∀b∈[Ua.heap.objs.size],b=Ua.heap.objs.size:=λb hb=>ak.mp hb
 have Ue:=m9 Ua {cls:=.type "range_iterator",data:=.fields #[eQ a,eQ (jl a b 1),eQ 1]} Ua.toks
 refine wpAny_pyIter_range hr hs ⟨Ua,_,[Ua.heap.objs.size],_,rfl,t9 (Walks.range hh Ua.heap.objs.size a 1 n) (λz h=>h) (λb hb=>.inl hb) (λb hb=> ?_) (λi h st b hb=> ?_) ?_ (λj p v h Y e1 e2 k hY=> ?_) (λj p v s Q E hj hv st q=>bD (rfl:cT (.Name _ px) _ v=bG ()) q),⟨?_,λb o e=>mN Ue _ _ (bU _ e)⟩,Uc,Ue,λb hb=> ?_⟩
 ·rw [one b hb];exact pw (nM _)
 ·rw [one b hb];exact ⟨_,st,λv q=>nomatch q⟩
 ·simp
 ·obtain ⟨t,rfl⟩:=e2
  rw [a7] at e1
  refine mX (dT.mp e1) λk hk Ub=> ?_;obtain rfl:=Ub
  have:=aT.mp hk
  refine eE this ?_;clear this;intro _ Ub;obtain rfl:=Ub
  exact ⟨t,by simp⟩
 ·rw [hn]
  have:=av Ua.heap (o:={cls:=.type "range_iterator",data:=.fields #[eQ a,eQ n,eQ 1]}) rfl
  simpa using this
 ·rw [one b hb];exact nM _
theorem DJ (h:Fh prog w (fs c σ Λ) e "range" [.int n]): ∀s:aq,(fs c σ Λ).I s.heap->aC (aI prog w) c.A (bJ e c.env) (λv s'=>bB s s'/\ ∃r t u z,v= .ref r/\IsRange s'.heap r 0 n 1 t u z) (λz z=>False) s:=λs i=>
 h.run s i _ λs' vs k r=>by
  refine nu r ?_;clear r;intro v us Ub r q;obtain rfl:=Ub
  subst q
  refine eE r ?_;clear r;intro t Ub;obtain rfl:=Ub
  exact call_range_1 ⟨mO k (m9 s' _ _),_,_,_,_,rfl,av _ rfl⟩
theorem KT (h:Fh prog w (fs c σ Λ) e "range" [.int m,.int n]): ∀s:aq,(fs c σ Λ).I s.heap->aC (aI prog w) c.A (bJ e c.env) (λv s'=>bB s s'/\ ∃r t u z,v= .ref r/\IsRange s'.heap r m n 1 t u z) (λz z=>False) s:=λs i=>
 h.run s i _ λs' vs k r=>by
  refine nu r ?_;clear r;intro v us Ub r q;obtain rfl:=Ub
  refine nu q ?_;clear q;intro v' WF Ub r' q;obtain rfl:=Ub
  subst q
  refine eE r ?_;clear r;intro t Ub;obtain rfl:=Ub
  refine eE r' ?_;clear r';intro t' Ub;obtain rfl:=Ub
  exact call_range_2 ⟨mO k (m9 s' _ _),_,_,_,_,rfl,av _ rfl⟩
theorem Lq (he:Fh prog w (fs c σ Λ) iter "enumerate" [.list ps]) (hh:c.A.handled=az) (ho: ∀b∈own,b∈c.X):
  uF prog w c σ Λ own (.Tuple Vu ek epos) iter ((ps.mapIdx λi p=>[.int i,p]).map .tup):=.mk λs i=>by
 refine he.run s i _ λUa vs Uc r=> ?_
 refine nu r ?_;clear r;intro v us Ub r q;obtain rfl:=Ub
 subst q
 refine nw r ?_;clear r;intro a vs Ub ha hl hr;obtain rfl:=Ub
 have hr:mR c.X Ua.heap ps vs:=hr
 have hn:a∉own:=λq=>ha (ho a q)
 refine mX (id hl) λo e1 e2=> ?_
 have lt: @kD Nat _ a Ua.heap.objs.size:=aR e1
 have ga:(hideAll Ua.heap own).get? a=aa o:=bS _ e1 hn
 refine call_enumerate_list hl λh' hE hI hz hk=> ?_
 refine wpAny_pyIter_enum hE ?_
 have Ue:bB Ua {Ua with heap:=h'}:=⟨h',Ua.toks,rfl,hk⟩
 refine ⟨Ua,_,[Ua.heap.objs.size+1,Ua.heap.objs.size],_,rfl,yu (WalksT.enumerate hh (Ua.heap.objs.size+1) Ua.heap.objs.size a (pn (by exact mK (.o (.b (.a xA xI) xA) (.b xA (.a xA xI))) [_])) (pn (by exact (mK (.i (.b xA xB) (.o (.b xA (.a xB xI)) (.b (.a xB xI) xA))) [_,_]) lt)) (pn (by exact (mK (.i (.b xA xB) (.o (.b xA xB) (.b xB xA))) [_,_]) lt)) vs.toArray) (λy h=>h) (λb hb=> ?_) (λb hb=> ?_) (λi h st b hb=> ?_) ?_ (λj p v h Y e1 e2 k hY=> ?_),
  ⟨⟨⟨_,hE⟩,hI,hl.at (λo e=>hk _ o e)⟩,λb o e=>hk _ _ (bU _ e)⟩,Uc,Ue,λb hb=> ?_⟩
 ·simp at hb
  rcases hb with rfl|rfl|rfl
  ·exact .inl (.head _)
  ·exact .inl (.tail _ (.head _))
  ·exact .inr ⟨o,ga⟩
 ·simp at hb
  rcases hb with rfl|rfl
  ·exact pw (oh (by exact mK (.l xA (.a xA xI)) [_]))
  ·exact pw (oh (by exact mK (.l xA xA) [_]))
 ·simp at hb
  rcases hb with rfl|rfl
  ·obtain ⟨⟨old,q⟩,_⟩:=st;exact ⟨_,q,λv z=>nomatch z⟩
  ·exact qS st.2.1
 ·rw [bq,hr.len,l0]
 ·obtain ⟨t,x,q,rfl⟩:=e2
  rw [lk] at e1
  refine mX (dT.mp e1) λp' hp Ub=> ?_;obtain rfl:=Ub
  exact mR.cons (by exact ⟨t,rfl⟩) (mR.cons (mV.keep k ((hr.get' hp q |>.keepX (sD ho)).sub hY)) mR.nil)
 ·simp at hb
  rcases hb with rfl|rfl
  ·exact oh (by exact mK (.l xA (.a xA xI)) [_])
  ·exact oh (by exact mK (.l xA xA) [_])
theorem GX (he:Fh prog w (fs c σ Λ) iter "zip" [.list ps,.list qs]) (hh:c.A.handled=az) (ho: ∀b∈own,b∈c.X):
  uF prog w c σ Λ own (.Tuple Vu ek epos) iter ((ji (λp q=>[p,q]) ps qs).map .tup):=.mk λs i=>by
 refine he.run s i _ λUa vs Uc r=> ?_
 refine nu r ?_;clear r;intro v us Ub r q;obtain rfl:=Ub
 refine nu q ?_;clear q;intro v' WF Ub r' q;obtain rfl:=Ub
 subst q
 refine nw r ?_;clear r;intro a vs Ub ha hl hr;obtain rfl:=Ub
 refine nw r' ?_;clear r';intro b' ws Ub hb' Wg WK;obtain rfl:=Ub
 have hr:mR c.X Ua.heap ps vs:=hr
 have WK:mR c.X Ua.heap qs ws:=WK
 refine mX (id hl) λo e1 e2=> ?_
 refine mX (id Wg) λo' e1' Wd=> ?_
 have lt: @kD Nat _ a Ua.heap.objs.size:=aR e1
 have lt': @kD Nat _ b' Ua.heap.objs.size:=aR e1'
 have ga:(hideAll Ua.heap own).get? a=aa o:=bS _ e1 (λq=>ha (ho a q))
 have gb:(hideAll Ua.heap own).get? b'=aa o':=bS _ e1' (λq=>hb' (ho b' q))
 refine call_zip_2 hl Wg λh' hz Xs Vw hI hI' hsz hk=> ?_
 refine wpAny_pyIter_zip hz ?_
 have Ue:bB Ua {Ua with heap:=h'}:=⟨h',Ua.toks,rfl,hk⟩
 generalize hN:Ua.heap.objs.size=N at*
 refine ⟨Ua,_,[N+4,N+2,N+3,N,N+1],_,rfl,yu (WalksT.zip2 hh (N+4) (N+2) (N+3) N (N+1) a b' ⟨pn (by exact mK (.o (.b (.a xA xM) (.a xA xK)) (.b (.a xA xK) (.a xA xM))) [_]),pn (by exact mK (.o (.b (.a xA xO) (.a xA xK)) (.b (.a xA xK) (.a xA xO))) [_]),pn (by exact mK (.o (.b xA (.a xA xK)) (.b (.a xA xK) xA)) [_]),pn (by exact mK (.o (.b (.a xA xI) (.a xA xK)) (.b (.a xA xK) (.a xA xI))) [_]),pn (by exact mK (.o (.b (.a xA xM) (.a xA xO)) (.b (.a xA xO) (.a xA xM))) [_]),pn (by exact mK (.o (.b (.a xA xM) xA) (.b xA (.a xA xM))) [_]),pn (by exact mK (.o (.b (.a xA xM) (.a xA xI)) (.b (.a xA xI) (.a xA xM))) [_]),pn (by exact mK (.o (.b (.a xA xO) xA) (.b xA (.a xA xO))) [_]),pn (by exact mK (.o (.b (.a xA xO) (.a xA xI)) (.b (.a xA xI) (.a xA xO))) [_]),pn (by exact mK (.o (.b xA (.a xA xI)) (.b (.a xA xI) xA)) [_]),pn (by exact (mK (.i (.b xA xB) (.o (.b xA (.a xB xK)) (.b (.a xB xK) xA))) [_,_]) lt),pn (by exact (mK (.i (.b xA xB) (.o (.b xA (.a xB xO)) (.b (.a xB xO) xA))) [_,_]) lt),pn (by exact (mK (.i (.b xA xB) (.o (.b xA xB) (.b xB xA))) [_,_]) lt),pn (by exact (mK (.i (.b xA xB) (.o (.b xA (.a xB xI)) (.b (.a xB xI) xA))) [_,_]) lt),pn (by exact (mK (.i (.b xA xB) (.o (.b xA (.a xB xK)) (.b (.a xB xK) xA))) [_,_]) lt'),pn (by exact (mK (.i (.b xA xB) (.o (.b xA (.a xB xO)) (.b (.a xB xO) xA))) [_,_]) lt'),pn (by exact (mK (.i (.b xA xB) (.o (.b xA xB) (.b xB xA))) [_,_]) lt'),pn (by exact (mK (.i (.b xA xB) (.o (.b xA (.a xB xI)) (.b (.a xB xI) xA))) [_,_]) lt')⟩ vs.toArray ws.toArray) (λb hb=> ?_) (λb hb=> ?_) (λb hb=> ?_) (λi h st b hb=> ?_) ?_ (λj p v h Y e1 e2 k hY=> ?_),
  ⟨⟨hz,Xs,⟨_,_,Vw⟩,hI,hI',hl.at (λo e=>hk _ o e),Wg.at (λo e=>hk _ o e)⟩,λb o e=>hk _ _ (bU _ e)⟩,Uc,Ue,λb hb=> ?_⟩
 ·simp at hb ⊢;rcases hb with rfl|rfl|rfl|rfl<;>simp
 ·simp at hb
  rcases hb with rfl|rfl|rfl|rfl|rfl|rfl|rfl
  ·exact .inl (by simp)
  ·exact .inl (by simp)
  ·exact .inl (by simp)
  ·exact .inl (by simp)
  ·exact .inl (by simp)
  ·exact .inr ⟨o,ga⟩
  ·exact .inr ⟨o',gb⟩
 ·refine pw (oh ?_)
  simp at hb
  rcases hb with rfl|rfl|rfl|rfl|rfl<;>first|exact gi hN|exact ch (gi hN) (jG ..)
 ·obtain ⟨a1,a2,⟨_,_,a3⟩,a4,a5,_⟩:=st
  simp at hb
  rcases hb with rfl|rfl|rfl|rfl|rfl
  ·exact ⟨_,a1,λv z=>nomatch z⟩
  ·exact ⟨_,a2,λv z=>nomatch z⟩
  ·exact ⟨_,a3,λv z=>nomatch z⟩
  ·exact qS a4
  ·exact qS a5
 ·simp [hr.len,WK.len]
 ·refine nu e2 ?_;clear e2;intro x y q q' Ub;obtain rfl:=Ub
  rw [lb] at e1
  cases h1:ps[j]? with
  |none=>rw [h1] at e1;exact nE e1
  |some p1=>
   cases h2:qs[j]? with
   |none=>rw [h1,h2] at e1;exact nE e1
   |some p2=>
    rw [h1,h2] at e1;obtain rfl:=am e1
    exact mR.cons (mV.keep k ((hr.get' h1 q |>.keepX (sD ho)).sub hY)) (mR.cons (mV.keep k ((WK.get' h2 q' |>.keepX (sD ho)).sub hY)) mR.nil)
 ·refine oh ?_
  simp at hb
  rcases hb with rfl|rfl|rfl|rfl|rfl<;>first|exact gi hN|exact ch (gi hN) (jG ..)
theorem I3 (hh:A.handled=az) (hx:sG c x) (hy:sG c y) (hk:c.env.scope.kind= .function)
  (i:In c σ Λ s.heap) (r:mV c.X s.heap (.tup [p,q]) v):
  aC (aI prog w) A (mc (.Tuple [.Name x px,.Name y py] k pos) c.env v) (λz s'=>nK s s'/\In c ((y,q)::(x,p)::σ) Λ s'.heap/\oV c.own s.heap s'.heap) (λz z=>False) s:=by
 refine nw r ?_;clear r;intro T vs Ub nT tT r;obtain rfl:=Ub
 refine nu r ?_;clear r;intro a us Ub ra r;obtain rfl:=Ub
 refine nu r ?_;clear r;intro b WF Ub rb r;obtain rfl:=Ub
 subst r
 refine wpAny_assign_Tuple hh tT rfl rfl λh' hE=> ?_
 have kk:m4 s.heap h':=λb o e=>hE b o (dj (aR e)) e
 have Uj:=i.mono kk
 refine ae (bL (dM (ab (rJ (s:={s with heap:=h'}) Uj hx (mV.keep kk ra) hk) (λz Ud uu=>rW uu λUO Ui Ue=> ?_) λz z e=>e)))
 refine ae (bL (dM (ab (rJ Ui hy ((mV.keep kk rb).keepX λb o nb e=>Ue b o (λq=>nb (ax _ q)) e) hk) (λz Uk uu=>rW uu λUT Us Um=> ?_) λz z e=>e)))
 exact aj ⟨(nK.trans ⟨h',s.toks,rfl⟩ (UO.trans UT)),Us,λb o nb e=>Um b o nb (Ue b o nb (kk _ _ e))⟩
theorem re (hh:c.A.handled=az) (hx:autoParam (sG c x) X2) (hy:autoParam (sG c y) X2) (hk:autoParam (c.env.scope.kind= .function) X1):
  zf prog w c (.Tuple [.Name x px,.Name y py] k pos) (.tup [p,q]) [(y,q),(x,p)]:=λσ Λ s v i r=>I3 hh hx hy hk i r
end
end
section
open PySem.Calls PyProof.Rows PySem.Builtin.Str
section
variable {prog:aG} {w:au} {φ:Fs} {A:aX} {X:List aF} {I:aW->Prop}
theorem mW (h:Ev prog w φ e p) (e':p=q):Ev prog w φ e q:=e'▸h
theorem te (h:og prog w A X t p q r) (e:r=r'):og prog w A X t p q r':=e▸h
theorem qB (h:pZ prog w A X I f ps p) (e:p=q):pZ prog w A X I f ps q:=e▸h
theorem nh (h:x=S l):Ev prog w φ (.Constant (.str x) k pos) (.str (S l)):=h▸Kf
theorem qQ (r:mR X h [p] vs): ∃v,vs=[v]/\mV X h p v:=by
 refine nu r ?_;clear r;intro v us Ub a b;obtain rfl:=Ub
 subst b
 exact ⟨v,rfl,a⟩
theorem sW (r:mR X h [p,q] vs): ∃v u,vs=[v,u]/\mV X h p v/\mV X h q u:=by
 refine nu r ?_;clear r;intro v us Ub a b;obtain rfl:=Ub
 refine mX (qQ b) λu Ub c=> ?_;obtain rfl:=Ub
 exact ⟨v,u,rfl,a,c⟩
theorem zK (r:mR X h [p,q,r'] vs): ∃v u z,vs=[v,u,z]/\mV X h p v/\mV X h q u/\mV X h r' z:=by
 refine nu r ?_;clear r;intro v us Ub a b;obtain rfl:=Ub
 refine nu (sW b) λu z Ub c d=> ?_;obtain rfl:=Ub
 exact ⟨v,u,z,rfl,a,c,d⟩
theorem nG (r:mV X h (.str x) v): ∃t,v= .str x t:=by exact r
theorem tz (r:mV X h (.int i) v): ∃t,v= .int i t:=by exact r
theorem Ln (r:mV X h (.bool i) v):v= .bool i:=by exact r
theorem pL (r:mV X h (.list l) v): ∃a vs,v= .ref a/\a∉X/\h.IsList a vs.toArray/\mR X h l vs:=by exact r
theorem N2 (r:mV X h (.tup l) v): ∃a vs,v= .ref a/\a∉X/\IsTup h a vs.toArray/\mR X h l vs:=by exact r
theorem ou:mV X h (.str x) (.str x t):=by exact ⟨t,rfl⟩
theorem tU:mV X h (.int x) (.int x t):=by exact ⟨t,rfl⟩
theorem uI:mV X h (.bool x) (.bool x):=by rfl
theorem Ca:mV X h .none .none:=by rfl
theorem pi:mV X h (.raw v) v:=by rfl
theorem uK (ha:a∉X) (hl:h.IsList a vs.toArray) (r:mR X h l vs):mV X h (.list l) (.ref a):=by exact ⟨a,vs,rfl,ha,hl,r⟩
theorem EI (ha:a∉X) (hl:IsTup h a vs.toArray) (r:mR X h l vs):mV X h (.tup l) (.ref a):=by exact ⟨a,vs,rfl,ha,hl,r⟩
theorem oH (s:aq) (k:Nat):bB s {s with toks:=k}:=⟨_,_,rfl,λz z e=>e⟩
theorem uQ (lx:oj X s.heap) (r:mR X s.heap l vs):
  bB s {s with heap:=s.heap.push {cls:=.type "list",data:=.seq vs.toArray},toks:=tk}/\mV X (s.heap.push {cls:=.type "list",data:=.seq vs.toArray}) (.list l) (.ref s.heap.objs.size):=
 ⟨m9 s _ tk,uK (oY lx) ⟨_,av _ rfl,rfl,_,rfl⟩ (mR.keep (mN (m9 s _ tk)) r)⟩
theorem FS (hr:(decide (k< -(2^63:Int))||decide (k>=2^63))=false) (hp:(jf k l.length).bind (l[·]?)=aa x):
  og prog w A X (dS value UG) (.str (S l)) (.int k) (.str (S [x])):=λs a y z r q=>by
 obtain ⟨t,rfl⟩:=nG r;obtain ⟨u,rfl⟩:=tz q
 refine vN (dR _ _ _) PySem.F.slot_str_getitem.lookup (P.getItem_str hr (c:=x) ?_ (vc rfl))
 rw [m6];simpa using hp
theorem tM (hp:l.getLast? =aa x):og prog w A X (dS value UG) (.str (S l)) (.int (-1)) (.str (S [x])):=
 FS rfl (by
  rw [j5] at hp
  have hl:0<l.length:=by
   cases l with
   |nil=>simp at hp
   |cons=>simp
  have:jf (-1) l.length=aa (l.length - 1):=by
   unfold jf
   simp
   exact (mK (.i (.b xJ xA) (.a (.a (.L xJ (.a (.g xI) (.k xA))) (.B (.a (.g xI) (.k xA)) (.k xA))) (.e (.t (.a (.g xI) (.k xA))) (.s xA xI)))) [_]) hl
  rw [this];exact hp)
noncomputable def ri {α:Type} (l:List α) (lo hi:Option Int):List α:=(l.drop (lo.elim 0 (dQ l.length))).take (hi.elim l.length (dQ l.length) - lo.elim 0 (dQ l.length))
theorem mR.drop: ∀{ps:List PV} {vs:List ay} (n:Nat),mR X h ps vs->mR X h (ps.drop n) (vs.drop n)
 |ps,vs,0,r=>r
 |[],vs,n+1,r=>by subst r;simpa using mR.nil
 |p::ps,vs,n+1,r=>by
  refine nu r ?_;clear r;intro v us Ub a b;obtain rfl:=Ub
  exact b.drop n
theorem mR.take: ∀{ps:List PV} {vs:List ay} (n:Nat),mR X h ps vs->mR X h (ps.take n) (vs.take n)
 |ps,vs,0,r=>by simpa using mR.nil
 |[],vs,n+1,r=>by subst r;simpa using mR.nil
 |p::ps,vs,n+1,r=>by
  refine nu r ?_;clear r;intro v us Ub a b;obtain rfl:=Ub
  exact mR.cons a (b.take n)
theorem mR.cut {h:aW} {ps:List PV} {vs:List ay} (r:mR X h ps vs) (lo hi:Option Int):mR X h (ri ps lo hi) (ri vs lo hi):=by
 unfold Mine.ri
 rw [r.len]
 exact (r.drop _).take _
theorem yG (vs:List ay) (lo hi:Option Int):slicePick vs.toArray lo hi az=(ri vs lo hi).toArray:=by
 rw [slicePick_plain]
 simp [ri]
theorem yV (lo hi:Option Int) (n:Nat):km lo hi 1 n=(ag (hi.elim n (dQ n) - lo.elim 0 (dQ n))).map (lo.elim 0 (dQ n)+ ·):=by
 have:=sliceBounds_plain lo hi n
 have e:km lo hi 1 n=sliceRange (sliceBounds lo hi az n).1 (sliceBounds lo hi az n).2.1 1:=by
  cases lo<;>cases hi<;>rfl
 rw [e,this,sliceRange_one]
theorem JW (l:List Nat) (a:Nat): ∀n,a+n<=l.length->((ag n).map (a+ ·)).filterMap (l[·]?)=(l.drop a).take n:=by
 intro n
 induction n with
 |zero=>intro _;rfl
 |succ n ih=>
  intro h
  rw [cy,bi,List.filterMap_append,ih (by exact (mK (.i (.l (.a xA (.a xB xI)) xC) (.l (.a xA xB) xC)) [_,_,_]) h),dH (by rw [bH];exact (mK (.i (.l (.a xC (.a xA xI)) xB) (.b xA (.s xB xC))) [_,_,_]) h)]
  congr 1
  simp only [ba,gX,List.filterMap_cons,List.filterMap_nil]
  rw [aA (by exact (mK (.i (.l (.a xA (.a xB xI)) xC) (.b (.a xA xB) xC)) [_,_,_]) h),jk]
theorem C1 (l:List Nat) (lo hi:Option Int):Txt.slice (S l) lo hi=S (ri l lo hi):=by
 have hc: ∀k,dQ l.length k<=l.length:=λk=>by
  have:=clipAt_cast l.length k
  split at this<;>(first|exact (mK (.i (.E (.k xA) (.x xJ (.n (.a xA (.k xB)) (.k xB)))) (.l xA xB)) [_,_] [_]) this|exact (mK (.i (.E (.k xA) (.x xJ (.n xA (.k xB)))) (.l xA xB)) [_,_] [_]) this)
 have ha:lo.elim 0 (dQ l.length)<=l.length:=by cases lo<;>simp [hc]
 have hb:hi.elim l.length (dQ l.length)<=l.length:=by cases hi<;>simp [hc]
 have e:(km lo hi 1 (S l).length).filterMap ((S l).cps[·]?)=ri l lo hi:=by
  rw [m6,yV]
  simp only [lc]
  rw [JW l _ _ (by exact (mK (.i (.l xA xC) (.i (.l xB xC) (.l (.a xA (.s xB xA)) xC))) [_,_,_]) ha hb)]
  rfl
 unfold Txt.slice
 rw [e]
 split
 ·rename_i h
  simp only [beq_self_eq_true,Bool.true_and,beq_iff_eq] at h
  rw [m6,yV,ah,be] at h
  have h0:lo.elim 0 (dQ l.length)=0/\hi.elim l.length (dQ l.length)=l.length\/l.length=0:=by exact (mK (.i (.l xB xC) (.i (.e (.s xB xA) xC) (.o (.a (.e xA xJ) (.e xB xC)) (.e xC xJ)))) [_,_,_]) hb h
  rcases h0 with ⟨h1,h2⟩|h0
  ·show S l=S _
   unfold ri
   rw [h1,h2];simp
  ·have:l=[]:=cC h0
   subst this
   unfold ri;simp
 ·rfl
structure yP (prog:aG) (w:au) (φ:Fs) (e:Option Expr) (k:Option Int):Prop where
 run: ∀s:aq,φ.I s.heap->aC (aI prog w) φ.A (evalPart e φ.env) (λv s'=>bB s s'/\ ∃kt:Option (Int×Tok),v=cL kt/\kt.map (·.1)=k) (λz z=>False) s
theorem rO:yP prog w φ az az:=.mk λs z=>aj ⟨mU _,az,rfl,rfl⟩
theorem n8 (h:Ev prog w φ e (.int i)):yP prog w φ (aa e) (aa i):=.mk λs i=>ab (h.run s i) (λv s' uu=>eA uu λk r=>by
 refine eE (tz r) λt Ub=> ?_;obtain rfl:=Ub
 exact ⟨k,aa (_,t),rfl,rfl⟩) λz z e=>e
theorem qE {lo hi:Option Int} (hv:Ev prog w φ value (.str (S l))) (hl:yP prog w φ lower lo) (hu:yP prog w φ upper hi)
  (hsz:l.length<=bo) (ht:autoParam (∀o r,i8 value o r=bG ()) X4):Ev prog w φ (.Subscript value (.Slice lower upper az p) pos) (.str (S (ri l lo hi))):=.mk λs i=>by
 refine wpAny_Subscript_str_slice (ab (hv.run s i) (λv Ua uu=>eA uu λUc Uf=>ab (hl.run Ua (φ.mono' i Uc)) (λvl Ud uu=>o8 uu λUe lt e2 Wd=>ab (hu.run Ud (φ.mono' i (mO Uc Ue))) (λvu Uk uu=>o8 uu λUm ut e3 Xi=> ?_) λz z e=>e) λz z e=>e) λz z e=>e) ht
 refine eE (nG Uf) λt Ub=> ?_;obtain rfl:=Ub
 have kk:=mO Uc (mO Ue Um)
 refine ⟨S l,t,lt,ut,rfl,e2,e3,?_⟩
 refine post_val_or_str ⟨ch (Txt.slice_le (S l) _ _) (by rw [m6];exact hsz),λt' k=> ?_⟩
 have e:Txt.slice (S l) (lt.map (·.1)) (ut.map (·.1))=S (ri l lo hi):=by rw [Wd,Xi,C1]
 refine ⟨mO kk (m9 _ _ k),?_⟩
 show mV _ _ (.str (S (ri l lo hi))) (.str (Txt.slice (S l) (lt.map (·.1)) (ut.map (·.1))) t')
 rw [e];exact ou
theorem xh (h:kt.map (·.1)=k):IsPart (cL kt) k:=by
 cases kt with
 |none=>subst h;exact .none
 |some q=>subst h;exact .int _ _
end
section
variable {prog:aG} {w:au} {A:aX} {X:List aF} {I:aW->Prop}
theorem vk (hfit:gy (Txt.lower x).length=false):pZ prog w A X I (.builtin "str.lower") [.str x] (.str (Txt.lower x)):=λs vs z z r=>by
 refine mX (qQ r) λv Ub r1=> ?_;obtain rfl:=Ub;obtain ⟨t,rfl⟩:=nG r1
 exact SC.lower hfit ⟨pt _ _,ou⟩
theorem wc (hfit:gy (Txt.swapcase x).length=false):pZ prog w A X I (.builtin "str.swapcase") [.str x] (.str (Txt.swapcase x)):=λs vs z z r=>by
 refine mX (qQ r) λv Ub r1=> ?_;obtain rfl:=Ub;obtain ⟨t,rfl⟩:=nG r1
 exact SC.swapcase hfit ⟨pt _ _,ou⟩
theorem IM (hsz:x.length<=bo):pZ prog w A X I (.builtin "str.rstrip") [.str x] (.str (Txt.rstrip x)):=λs vs z z r=>by
 refine mX (qQ r) λv Ub r1=> ?_;obtain rfl:=Ub;obtain ⟨t,rfl⟩:=nG r1
 exact SC.rstrip (λt' k=>⟨oH _ _,ou⟩) hsz
theorem FO:pZ prog w A X I (.builtin "str.endswith") [.str x,.str y] (.bool (Txt.endswith x y)):=λs vs z z r=>by
 refine nu (sW r) λv u Ub r1 r2=> ?_;obtain rfl:=Ub;refine eE (nG r1) λt Ub=> ?_;obtain rfl:=Ub;refine eE (nG r2) λt Ub=> ?_;obtain rfl:=Ub
 exact SC.endswith ⟨mU _,uI⟩
theorem Av: ∀{xs:List Str} {vs:List ay},mR X h (xs.map .str) vs-> ∃l:List (Str×Tok),vs=c8 l/\l.map (·.1)=xs
 |[],vs,r=>by subst r;exact ⟨[],rfl,rfl⟩
 |x::xs,vs,r=>by
  refine nu r ?_;clear r;intro v us Ub a b;obtain rfl:=Ub
  refine eE (nG a) λt Ub=> ?_;obtain rfl:=Ub
  refine mX (Av b) λl Ub e=> ?_;obtain rfl:=Ub
  exact ⟨(x,t)::l,rfl,by rw [ba,e]⟩
theorem Aq: ∀{l:List (Str×Tok)},mR X h ((l.map (·.1)).map .str) (c8 l)
 |[]=>mR.nil
 |p::l=>mR.cons ou Aq
theorem vZ (hok:JoinOk x xs=ai):pZ prog w A X I (.builtin "str.join") [.str x,.list (xs.map .str)] (.str (Txt.join x xs)):=λs vs z z r=>by
 refine nu (sW r) λv u Ub r1 r2=> ?_;obtain rfl:=Ub;refine eE (nG r1) λt Ub=> ?_;obtain rfl:=Ub
 refine nw (pL r2) λD us Ub z hl hr=> ?_;obtain rfl:=Ub
 refine mX (Av hr) λl Ub e=> ?_;obtain rfl:=Ub
 exact SC.join hl e hok λt' k=>⟨oH _ _,ou⟩
theorem tR (lx:oj X s.heap) (e:l.map (·.1)=xs):
  bB s {s with heap:=s.heap.push {cls:=.type "list",data:=.seq (c8 l).toArray},toks:=tk}/\
   mV X (s.heap.push {cls:=.type "list",data:=.seq (c8 l).toArray}) (.list (xs.map .str)) (.ref s.heap.objs.size):=by
 subst e
 exact uQ (tk:=tk) lx Aq
theorem xo (hsz:x.length+1<=bo):pZ prog w A X I (.builtin "str.splitlines") [.str x] (.list ((Txt.lines x).map .str)):=λs vs z lx r=>by
 refine mX (qQ r) λv Ub r1=> ?_;obtain rfl:=Ub;refine eE (nG r1) λt Ub=> ?_;obtain rfl:=Ub
 have e:=lineCuts_le x
 refine gM F.slot_str_splitlines (dR _ _ _) F.entry_str_splitlines (F.args_str_splitlines_1 _) (meets_str_splitlines x t (by exact (mK (.i (.l (.a xA xI) xB) (.l xA xB)) [_,_]) hsz) (by exact (mK (.i (.l (.a xC xI) xB) (.i (.l xA (.a xC xI)) (.l xA xB))) [_,_,_]) hsz e)) ?_
 cases hw:lineCuts x==[(0,x.length)]
 ·simp only [a9,if_false]
  rw [strsFrom_eq]
  exact tR (l:=numbered s.toks (kr x)) lx ((numbered_texts _ _).trans (if_neg (ne_true_of_eq_false hw)).symm)
 ·simp only [if_true]
  exact tR (l:=[(x,t)]) lx (if_pos hw).symm
theorem zp (hy:(y.length==0)=false) (hsz:x.length<=bo) (hsz2:(partsBetween x (j9 x y 0 x.length (x.length+1)) y.length).length<=bo):
  pZ prog w A X I (.builtin "str.split") [.str x,.str y] (.list ((Txt.split x y).map .str)):=λs vs z lx r=>by
 refine nu (sW r) λv u Ub r1 r2=> ?_;obtain rfl:=Ub;refine eE (nG r1) λt Ub=> ?_;obtain rfl:=Ub;refine eE (nG r2) λu Ub=> ?_;obtain rfl:=Ub
 cases h1:(decide (x.length<y.length)||decide (strKind x<strKind y))
 ·cases hf:(j9 x y 0 x.length (x.length+1)).isEmpty
  ·refine gM F.slot_str_split (dR _ _ _) F.entry_str_split (F.args_str_split_2 _ _) (meets_str_split_sep x y t u h1 hy hf hsz hsz2) ?_
   show wants _ _ _ {s with toks:=_,heap:=s.heap.push {cls:=.type "list",data:=.seq (strsFrom s.toks (partsBetween x (j9 x y 0 x.length (x.length+1)) y.length)).toArray}}
   rw [strsFrom_eq]
   exact tR (l:=numbered s.toks _) lx ((numbered_texts _ _).trans ((if_neg (ne_true_of_eq_false h1)).trans (if_neg (ne_true_of_eq_false hf))).symm)
  ·exact gM F.slot_str_split (dR _ _ _) F.entry_str_split (F.args_str_split_2 _ _) (meets_str_split_not_found x y t u h1 hy hf)
    (tR (l:=[(x,t)]) lx ((if_neg (ne_true_of_eq_false h1)).trans (if_pos hf)).symm)
 ·exact gM F.slot_str_split (dR _ _ _) F.entry_str_split (F.args_str_split_2 _ _) (meets_str_split_cannot_occur x y t u h1)
   (tR (l:=[(x,t)]) lx (if_pos h1).symm)
theorem uS (h:x.length<=1000000):pZ prog w A X I (.builtin "len") [.str x] (.int x.length):=λs vs z z r=>by
 refine mX (qQ r) λv Ub r1=> ?_;obtain rfl:=Ub;refine eE (nG r1) λt Ub=> ?_;obtain rfl:=Ub
 exact P.len_str (by exact (mK (.i (.l xA (.c 1000000)) (.n (.L xS (.k xA)))) [_]) h) ⟨oH _ _,tU⟩
theorem so (h:l.length<=1000000):pZ prog w A X I (.builtin "len") [.list l] (.int l.length):=λs vs z z r=>by
 refine mX (qQ r) λv Ub r1=> ?_;obtain rfl:=Ub
 refine nw (pL r1) λD us Ub z hl hr=> ?_;obtain rfl:=Ub
 have e:us.toArray.size=l.length:=by simp [hr.len]
 refine call_len_list hl (by rw [e];exact (mK (.i (.l xA (.c 1000000)) (.B (.k xA) xS)) [_]) h) ?_
 rw [e]
 exact ⟨oH _ _,tU⟩
end
section
variable {prog:aG} {w:au} {c:Sc} {σ:m7} {Λ:List (aF×List PV)}
structure LK (X:List aF) (p:PV) (T:String):Prop where
 is: ∀(s:aq) v,mV X s.heap p v->s.TypeIs v T
 noRef: ∀h v,mV X h p v-> ∀a,v≠ .ref a
theorem oy:LK X (.str x) "str":=⟨λs v r=>by obtain ⟨t,rfl⟩:=nG r;exact dR _ _ _,λh v r a e=>by obtain ⟨t,rfl⟩:=nG r;cases e⟩
theorem ro {T id:String} (ho:Ev prog w (fs c σ Λ) o p) (hK:LK c.X p T) (pa:jE T) (slot:Slot T name id)
  (VK:kE (.builtin id)=bG (.type "method_descriptor")) (ha:tS prog w (fs c σ Λ) pos (e::es) ps) (hc:pZ prog w c.A c.X (In c σ Λ) (.builtin id) (p::ps) q)
  (UA:autoParam (db o name c.env (bJ o c.env)=bJ o c.env) X1)
  (U9:autoParam (((fb pos (aE (e::es) c.env)).all (λx=> !x.1)&&(cN pos (bR [] c.env)).all (λx=>x.1.isSome)
   &&decide ((e::es).length+([]:List eW).length+(if ([]:List eW).isEmpty then 0 else 1)<30))=ai) X1)
  (UF:autoParam ((apos.endLine==pos.line)=ai) X1) (he:autoParam (aE (e::es) c.env=(false,bJ e c.env)::aE es c.env) X1):
  Ev prog w (fs c σ Λ) (.Call (.Attribute o name apos) (e::es) [] pos) q:=.mk λs i=>
 dN UA U9 UF pa slot VK (ab (ho.run s i) (λov Ua uu=>eA uu λUc Uf=>⟨hK.is _ _ Uf,λa e=>absurd e (hK.noRef _ _ Uf a),nQ (qv (ab (ha.run Ua (i.mono (mN Uc))) (λvs Ud uu=>eA uu λUe Ur=>by
  have Ui:=i.mono (mN (mO Uc Ue))
  exact ⟨rM,ab (hc Ud (ov::vs) Ui Ui.liveAll (mR.cons (Uf.keep (mN Ue)) Ur)) (λz z uu=>eA uu λUm Ut=>⟨mO Uc (mO Ue Um),Ut⟩) λz z e=>e⟩) λz z e=>e) he)⟩) λz z e=>e)
theorem rf {T id:String} (ho:Ev prog w (fs c σ Λ) o p) (hK:LK c.X p T) (pa:jE T) (slot:Slot T name id)
  (VK:kE (.builtin id)=bG (.type "method_descriptor")) (hc:pZ prog w c.A c.X (In c σ Λ) (.builtin id) [p] q)
  (UA:autoParam (db o name c.env (bJ o c.env)=bJ o c.env) X1)
  (UF:autoParam ((apos.endLine==pos.line)=ai) X1):
  Ev prog w (fs c σ Λ) (.Call (.Attribute o name apos) [] [] pos) q:=.mk λs i=>
 dN UA rfl UF pa slot VK (ab (ho.run s i) (λov Ua uu=>eA uu λUc Uf=>⟨hK.is _ _ Uf,λa e=>absurd e (hK.noRef _ _ Uf a),nQ (wx (by
  have Ui:=i.mono (mN Uc)
  exact ⟨rM,ab (hc Ua [ov] Ui Ui.liveAll (mR.cons Uf mR.nil)) (λz z uu=>eA uu λUm Ut=>⟨mO Uc Um,Ut⟩) λz z e=>e⟩))⟩) λz z e=>e)
theorem sC (he:Ev prog w (fs c σ Λ) e p) (ha:zf prog w c Uh p bs) (hb:mZ prog w c.env c.A (In c (bs++σ) Λ) b J)
  (hs:autoParam (swapsWithSole [Uh] e pos.line c.env=bG false) X1) (hw:autoParam (swappedStores [Uh] e c.env=bG az) X1) (hm:autoParam (assignEach [Uh] c.env=[(false,mc Uh c.env)]) X1):
  mZ prog w c.env c.A (In c σ Λ) (.Assign [Uh] e pos::b) J:=
 qZ (I':=In c (bs++σ) Λ) (λs i=>by
  refine wpAny_Assign_stores (ab (he.run s i) (λv Ua uu=>eA uu λUc Uf=> ?_) λz z e=>e) hs hw
  rw [hm]
  exact ab (ha σ Λ Ua v (i.mono (mN Uc)) Uf) (λz Ud uu=>rW uu λUO Ui z=>⟨(nK.of Uc).trans UO,Ui⟩) λz z e=>e) hb
theorem tC (hp:σ.lookup x=aa p) (he:Ev prog w (fs c σ Λ) e q) (ho:og prog w c.A c.X (inplaceOp op) p q r)
  (hb:mZ prog w c.env c.A (In c ((x,r)::σ) Λ) b J) (hx:autoParam (sG c x) X2) (hk:autoParam (c.env.scope.kind= .function) X1):
  mZ prog w c.env c.A (In c σ Λ) (.AugAssign (.Name x px) op e pos::b) J:=
 qZ (I':=In c ((x,r)::σ) Λ) (λs i=>by
  refine mX (i.look hp) λv L rv=> ?_
  refine wpAny_AugAssign_Name (ve hk L (ab (he.run s i) (λu Ua uu=>eA uu λUc Uf=> ?_) λy y e=>e))
  have Uj:=i.mono (mN Uc)
  refine ab (ho Ua v u Uj.liveAll (mV.keep (mN Uc) rv) Uf) (λz Ud uu=>eA uu λUe Ur=> ?_) λz z e=>e
  exact ab (t5 (Uj.mono (mN Ue)) hx Ur hk) (λz Uk uu=>eA uu λUT Us=>⟨(nK.of (mO Uc Ue)).trans UT,Us⟩) λz z e=>e) hb
theorem EL (h: ∀g,In c σ Λ g->J .cont g):mZ prog w c.env c.A (In c σ Λ) (.Continue pos::b) J:=.mk λs i=>by
 rw [ci]
 exact ae (wpAny_Continue (aj ⟨nK.rfl' s,h _ i⟩))
noncomputable def Sc.addOwn (c:Sc) (D:aF):Sc:={c with own:=D::c.own}
theorem In.addOwn (i:In c σ Λ h) (k:m4 h h') (hD:h.get? D=az) (hn: ∃vs,h'.PlainList D vs):In (c.addOwn D) σ Λ h':=by
 have sb: ∀b,b∈(c.addOwn D).X->(∃o,h.get? b=aa o)->b∈c.X:=λb hb uu=>eE uu λo e=>by
  rcases ao.mp hb with q|q
  ·subst q;rw [hD] at e;exact nE e
  ·exact q
 have i':=i.mono k
 refine ⟨i'.keep,λa ha=> ?_,λa ha=> ?_,i'.liveX,.tail _ i'.locOwn,?_,?_,i'.cob,i'.kinds,?_⟩
 ·rcases ao.mp ha with q|q
  ·subst q
   cases e:c.g.get? a with
   |none=>exact e
   |some o=>have:=i.keep _ _ e;rw [hD] at this;exact nE this
  ·exact i'.fresh a q
 ·rcases ao.mp ha with q|q
  ·subst q;refine rU hn λvs n e=> ?_;exact ⟨_,e⟩
  ·exact i'.live a q
 ·refine mX i.loc λm n r=> ?_
  exact ⟨m,n.at' λo e=>k _ _ e,λx p a b=>let ⟨v,e,q⟩:=r x p a b;⟨v,e,mV.keep k (q.sub sb)⟩⟩
 ·intro x p a b
  refine nu (i.cel x p a b) λcc v e q r=> ?_
  exact ⟨cc,v,e,q.keeps k,mV.keep k (r.sub sb)⟩
 ·intro q hq
  refine o8 (i.lists q hq) λa vs b r=> ?_
  exact ⟨.tail _ a,vs,b.at λo e=>k _ _ e,mR.keep k (r.sub sb)⟩
theorem w1 (hb: ∀D,c.g.get? D=az->D∉c.X->mZ prog w c.env c.A (In (c.addOwn D) ((x,.raw (.ref D))::σ) ((D,[])::Λ)) b J)
  (hx: ∀D,sG (c.addOwn D) x:=by exact λz=>.inl rfl) (hk:autoParam (c.env.scope.kind= .function) X1) (hs:autoParam (cK (.List [] lp) (aa (.Name x px)) pos.line c.env=bG false) X1):
  mZ prog w c.env c.A (In c σ Λ) (.Assign [.Name x px] (.List [] lp) pos::b) J:=.mk λs i=>by
 rw [ci]
 refine ae (cO (jD (cG ⟨by decide,?_⟩)) hs)
 have Uj:In (c.addOwn s.heap.objs.size) σ ((s.heap.objs.size,[])::Λ) (s.heap.push {cls:=.type "list",data:=.seq #[]}):=by
  have j:=i.addOwn (mN (m9 s {cls:=.type "list",data:=.seq #[]} s.toks)) (nM _) ⟨#[],_,av _ rfl⟩
  refine {j with lists:=λq hq=> ?_}
  rcases ao.mp hq with e|e
  ·subst e;exact ⟨.head _,[],⟨_,av _ rfl⟩,mR.nil⟩
  ·exact j.lists q e
 have gD:c.g.get? s.heap.objs.size=az:=Uj.fresh _ (.head _)
 refine ab (t5 (c:=c.addOwn s.heap.objs.size) (s:={s with heap:=s.heap.push {cls:=.type "list",data:=.seq #[]}}) (p:=.raw (.ref s.heap.objs.size)) Uj (hx _) pi hk) (λz Ud uu=>eA uu λUO Ui=> ?_) λz z e=>e
 exact ab ((hb _ gD (oY i.liveAll)).run Ud Ui) (λfl Uk uu=>eA uu λUT j=>⟨(nK.trans ⟨_,_,rfl⟩ (UO.trans UT)),j⟩) λz z e=>e
theorem In.push {h h':aW} (i:In c σ ((D,l)::Λ) h) (r:mV c.X h p v) (hl: ∀vs:List ay,h.PlainList D vs.toArray->h'.PlainList D (vs++[v]).toArray) (hs:cM D h h')
  (Uu: ∀q∈Λ,q.1≠D):In c σ ((D,l++[p])::Λ) h':=by
 refine o8 (i.lists _ (.head _)) λhD vs pl rs=> ?_
 have VR:=hl vs pl
 have kx:oV c.X h h':=oV.of_same hs (ax _ hD)
 have lv: ∀a,(∃o,h.get? a=aa o)-> ∃o,h'.get? a=aa o:=λa uu=>eE uu λo e=>by
  by_cases q:a=D
  ·subst q;obtain ⟨_,e⟩:=VR;exact ⟨_,e⟩
  ·exact ⟨o,(hs.2 a q).trans e⟩
 refine ⟨λb o e=> ?_,i.fresh,λa ha=>lv a (i.live a ha),λa ha=>lv a (i.liveX a ha),i.locOwn,?_,λy q hk e=> ?_,λy a e=> ?_,i.kinds,λq hq=> ?_⟩
 ·rw [hs.2 b (λq=>by have:=i.fresh _ hD;rw [<-q,e] at this;exact tJ this)];exact i.keep _ _ e
 ·refine mX i.loc λm n hm=> ?_
  exact ⟨m,n.at' λo e=>by rw [hs.2 _ (sR pl n).symm];exact e,λy q hk e=>let ⟨u,e',r'⟩:=hm y q hk e;⟨u,e',r'.keepX kx⟩⟩
 ·refine nu (i.cel y q hk e) λa u q1 q2 q3=> ?_
  exact ⟨a,u,q1,q2.sameBut hs (qM pl q2).symm,q3.keepX kx⟩
 ·obtain ⟨u,q⟩:=i.cob y a e
  exact ⟨u,q.sameBut hs (qM pl q).symm⟩
 ·rcases ao.mp hq with e|e
  ·subst e;exact ⟨hD,vs++[v],VR,mR.append (rs.keepX kx) (mR.cons (r.keepX kx) mR.nil)⟩
  ·refine o8 (i.lists q (.tail _ e)) λa us b r'=> ?_
   exact ⟨a,us,b.at λo z=>by rw [hs.2 _ (Uu q e)];exact z,r'.keepX kx⟩
theorem C9 (i:In c σ ((D,l)::Λ) s.heap) (r:mV c.X s.heap p v) (Uu: ∀q∈Λ,q.1≠D) (hsz:l.length<=bo):
  aC (aI prog w) A (ft (.builtin "list.append") [.ref D,v]) (λz s'=>nK s s'/\In c σ ((D,l++[p])::Λ) s'.heap) (λz z=>False) s:=by
 refine o8 (i.lists _ (.head _)) λhD vs pl rs=> ?_
 refine lT (hsz:=by rw [bq,rs.len];exact hsz) pl λh' hl hs=>⟨⟨_,_,rfl⟩,i.push r (λus pu=> ?_) hs Uu⟩
 refine eE pl λn e=> ?_
 refine eE pu λn' e'=> ?_
 rw [e] at e'
 have:vs=us:=by
  have q:=congrArg Obj.data (am e')
  injection q with q1 q2
  simpa using q1
 subst this
 simpa using hl
theorem BJ (hy:σ.lookup y=aa (.raw (.ref D))) (he:Ev prog w (fs c σ ((D,l)::Λ)) e p) (hsz:l.length<=bo) (Uu: ∀q∈Λ,q.1≠D)
  (hb:mZ prog w c.env c.A (In c σ ((D,l++[p])::Λ)) b J)
  (hi:autoParam (i6 c.env=false) X1) (hs:autoParam (cK (.Call (.Attribute (.Name y yp) ("append":Str) apos) [e] [] pos) az Vt.line c.env=bG false) X1)
  (hd:autoParam ((y==("__debug__":Str))=false) XX) (hk:autoParam (c.env.scope.kind= .function) X1)
  (UA:autoParam (db (.Name y yp) ("append":Str) c.env (bJ (.Name y yp) c.env)=bJ (.Name y yp) c.env) X1)
  (U9:autoParam (((fb pos (aE [e] c.env)).all (λx=> !x.1)&&(cN pos (bR [] c.env)).all (λx=>x.1.isSome)
   &&decide ([e].length+([]:List eW).length+(if ([]:List eW).isEmpty then 0 else 1)<30))=ai) X1)
  (UF:autoParam ((apos.endLine==pos.line)=ai) X1) (U1:autoParam (aE [e] c.env=(false,bJ e c.env)::aE [] c.env) X1):
  mZ prog w c.env c.A (In c σ ((D,l)::Λ)) (.Expr (.Call (.Attribute (.Name y yp) ("append":Str) apos) [e] [] pos) Vt::b) J:=
 qZ (I':=In c σ ((D,l++[p])::Λ)) (λs i=>by
  refine mX (i.look hy) λv L rv=> ?_
  subst rv
  refine fM ?_ hi hs
  refine dN (T:="list") UA U9 UF PySem.F.plainAttrs_list PySem.F.slot_list_append PySem.F.type_list_append (jC (ve hk L ?_) hd)
  obtain ⟨hD,vs,⟨n,pl⟩,rs⟩:=i.lists _ (.head _)
  refine ⟨⟨_,pl,rfl⟩,λa e=>by cases e;exact ⟨_,pl,rfl⟩,nQ (qv ?_ U1)⟩
  refine cB (ab (he.run s i) (λu Ua uu=>eA uu λUc Uf=>cG ⟨rM,?_⟩) λz z e=>e) U1
  exact ab (C9 (i.mono (mN Uc)) Uf Uu hsz) (λz Ud uu=>eA uu λUO Ui=>⟨(nK.of Uc).trans UO,Ui⟩) λz z e=>e) hb
theorem yc (e:aD y ((x,p)::σ)=aa q):(y=x/\q=p)\/(y≠x/\σ.lookup y=aa q):=by
 by_cases hy:y=x
 ·subst hy;simp [aD] at e;exact .inl ⟨rfl,e.symm⟩
 ·have:(y==x)=false:=by simpa using hy
  simp [aD,this] at e;exact .inr ⟨hy,e⟩
theorem In.release (i:In (c.addOwn D) σ ((D,l)::Λ) h) (hx:σ.lookup x=aa (.raw (.ref D))) (Uu: ∀q∈Λ,q.1≠D) (hD:D∉c.X) (hc:c.env.locals∈c.own):In c ((x,.list l)::σ) Λ h:=by
 have sb: ∀b,b∈c.X->(∃o,h.get? b=aa o)->b∈(c.addOwn D).X:=λb hb z=>.tail _ hb
 obtain ⟨_,vs,⟨n,pl⟩,rs⟩:=i.lists _ (.head _)
 have rl:mV c.X h (.list l) (.ref D):=uK hD ⟨_,pl,rfl,_,rfl⟩ (rs.sub sb)
 refine ⟨i.keep,λa ha=>i.fresh a (.tail _ ha),λa ha=>i.live a (.tail _ ha),i.liveX,hc,?_,?_,i.cob,?_,?_⟩
 ·refine mX i.loc λm n r=> ?_
  refine ⟨m,n,λy p a b=> ?_⟩
  rcases yc b with ⟨rfl,rfl⟩|⟨_,b⟩
  ·refine mX (r y _ a hx) λv e q=> ?_
   subst q
   exact ⟨_,e,rl⟩
  ·refine mX (r y p a b) λv e q=> ?_;exact ⟨v,e,q.sub sb⟩
 ·intro y p a b
  rcases yc b with ⟨rfl,rfl⟩|⟨_,b⟩
  ·refine nu (i.cel y _ a hx) λcc v e q q'=> ?_
   subst q'
   exact ⟨cc,_,e,q,rl⟩
  ·refine nu (i.cel y p a b) λcc v e q r=> ?_
   exact ⟨cc,v,e,q,r.sub sb⟩
 ·intro y p b
  rcases yc b with ⟨rfl,rfl⟩|⟨_,b⟩
  ·exact i.kinds y _ hx
  ·exact i.kinds y p b
 ·intro q hq
  refine o8 (i.lists q (.tail _ hq)) λa vs b r=> ?_
  rcases ao.mp a with e|e
  ·exact absurd e (Uu q hq)
  ·exact ⟨e,vs,b,r.sub sb⟩
theorem w4 (x:Str) (hx:σ.lookup x=aa (.raw (.ref D))) (Uu: ∀q∈Λ,q.1≠D) (hD:D∉c.X) (hb:mZ prog w c.env c.A (In c ((x,.list l)::σ) Λ) b J) (hc:c.env.locals∈c.own:=by exact .head _):mZ prog w c.env c.A (In (c.addOwn D) σ ((D,l)::Λ)) b J:=.mk λs i=>hb.run s (i.release hx Uu hD hc)
end
end
section
open PySem.Calls PyProof.Rows
section
variable {prog:aG} {w:au} {A:aX} {X:List aF}
theorem pY (e:FR f x):bB s {s with toks:=s.toks+1}/\mV X ({s with toks:=s.toks+1}:aq).heap (.fx f) (.float x t):=⟨pt _ _,by exact ⟨_,_,rfl,e⟩⟩
noncomputable def zJ (n:Int):Bool:=decide (n.natAbs<2^40)
theorem tH (h:zJ n=ai):n.natAbs<2^1023:=by
 have h1:n.natAbs<2^40:=of_decide_eq_true h
 exact Nat.lt_trans h1 (lI (by decide) (by decide))
def nv:PV->Option Fx
 |.fx f=>aa f
 |.int n=>cond (zJ n) (QW n) az
 |_=>az
noncomputable def wG:PV->Bool|.fx _=>ai|_=>false
theorem QB {n:Int} {f:Fx} (e:nv (.int n)=aa f):zJ n=ai/\FR f (Float64.ofInt n):=by
 change cond (zJ n) (QW n) az=aa f at e
 cases h:zJ n with
 |false=>rw [h] at e;exact nE e
 |true=>rw [h] at e;exact ⟨rfl,Rc e⟩
theorem sE (hf:nv p=aa f) (r:mV X h p v):(∃x t,p= .fx f/\v= .float x t/\FR f x)\/ ∃n t,p= .int n/\v= .int n t/\zJ n=ai/\FR f (Float64.ofInt n):=by
 cases p with
 |fx g=>obtain rfl:=am hf;refine o6 r λx t e F=> ?_;exact .inl ⟨x,t,rfl,e,F⟩
 |int n=>refine eA (QB hf) λhs F=> ?_;refine eE r λt e=> ?_;exact .inr ⟨n,t,rfl,e,hs,F⟩
 |_=>exact nE hf
theorem Kq (hf:nv p=aa f) (hg:nv q=aa g) (e:Ce f g=aa r) (hm:(wG p||wG q)=ai):og prog w A X (cf .Add) p q (.fx r):=λs x y z rp rq=>by
 rcases sE hf rp with ⟨x,t,rfl,rfl,Fx⟩|⟨n,t,rfl,rfl,hs,Fx⟩
 ·rcases sE hg rq with ⟨y,u,rfl,rfl,Fy⟩|⟨n,u,rfl,rfl,hs,Fy⟩
  ·exact add_float (pY (xt Fx Fy e))
  ·exact add_fi_fits (tH hs) (pY (xt Fx Fy e))
 ·rcases sE hg rq with ⟨y,u,rfl,rfl,Fy⟩|⟨_,u,rfl,rfl,_,Fy⟩
  ·exact add_if_fits (tH hs) (pY (xt Fx Fy e))
  ·exact oW hm
theorem JH (hf:nv p=aa f) (hg:nv q=aa g) (e:LB f g=aa r) (hm:(wG p||wG q)=ai):og prog w A X (cf .Sub) p q (.fx r):=λs x y z rp rq=>by
 rcases sE hf rp with ⟨x,t,rfl,rfl,Fx⟩|⟨n,t,rfl,rfl,hs,Fx⟩
 ·rcases sE hg rq with ⟨y,u,rfl,rfl,Fy⟩|⟨n,u,rfl,rfl,hs,Fy⟩
  ·exact sub_float (pY (Cu Fx Fy e))
  ·exact sub_fi_fits (tH hs) (pY (Cu Fx Fy e))
 ·rcases sE hg rq with ⟨y,u,rfl,rfl,Fy⟩|⟨_,u,rfl,rfl,_,Fy⟩
  ·exact sub_if_fits (tH hs) (pY (Cu Fx Fy e))
  ·exact oW hm
theorem Jq (hf:nv p=aa f) (hg:nv q=aa g) (e:Mg f g=aa r) (hm:(wG p||wG q)=ai):og prog w A X (cf .Mult) p q (.fx r):=λs x y z rp rq=>by
 rcases sE hf rp with ⟨x,t,rfl,rfl,Fx⟩|⟨n,t,rfl,rfl,hs,Fx⟩
 ·rcases sE hg rq with ⟨y,u,rfl,rfl,Fy⟩|⟨n,u,rfl,rfl,hs,Fy⟩
  ·exact mul_float (pY (CD Fx Fy e))
  ·exact mul_fi_fits (tH hs) (pY (CD Fx Fy e))
 ·rcases sE hg rq with ⟨y,u,rfl,rfl,Fy⟩|⟨_,u,rfl,rfl,_,Fy⟩
  ·exact mul_if_fits (tH hs) (pY (CD Fx Fy e))
  ·exact oW hm
theorem zL (h:FR f x): ¬Float64.isInf x=ai:=by
 obtain ⟨a,m,e,hd⟩:=h.1
 unfold Float64.isInf
 exact hd▸dz
def Bd (a b:Int):Option Fx:=cond (bN b.natAbs 0) az (wz (decide (a<0)!=decide (b<0)) (de a.natAbs U) b.natAbs)
theorem HE (e:Bd a b=aa r):b≠0/\FR r (Float64.ofFrac (decide (a<0)!=decide (b<0)) a.natAbs b.natAbs):=by
 unfold Bd at e
 cases hb:bN b.natAbs 0 with
 |true=>rw [hb] at e;exact nE e
 |false=>
  rw [hb,An] at e
  have hz:=F1 hb
  refine ⟨by omega,?_⟩
  refine tf (Float64.ofFrac_right (W:=de a.natAbs U) (D:=b.natAbs) (by exact (mK (.i (.n (.e xA xJ)) (.b xJ xA)) [_]) hz) ?_ (by exact (mK (.i (.n (.e xA xJ)) (.b xJ xA)) [_]) hz)) (by exact (mK (.i (.n (.e xA xJ)) (.b xJ xA)) [_]) hz) e (.inl rfl)
  rw [jU];rfl
theorem JY (e:Bd a b=aa r):og prog w A X (cf .Div) (.int a) (.int b) (.fx r):=λs x y z rp rq=>by
 obtain ⟨hb,F⟩:=HE e
 obtain ⟨t,rfl⟩:=rp;obtain ⟨u,rfl⟩:=rq
 exact jQ (by simpa using hb) (zL F) (pY F)
theorem KX (hf:nv p=aa f) (hg:nv q=aa g) (e:y4 f g=aa r) (hm:(wG p||wG q)=ai):og prog w A X (cf .Div) p q (.fx r):=λs x y j rp rq=>by
 rcases sE hf rp with ⟨x,t,rfl,rfl,Fx⟩|⟨n,t,rfl,rfl,hs,Fx⟩
 ·rcases sE hg rq with ⟨y,u,rfl,rfl,Fy⟩|⟨n,u,rfl,rfl,hs,Fy⟩
  ·obtain ⟨Fr,z⟩:=zS Fx Fy e
   exact jA (by simp [z]) (pY Fr)
  ·obtain ⟨Fr,z⟩:=zS Fx Fy e
   exact AutoFloatOps.truediv_fi_2 (zL Fy) (by simp [z]) (pY Fr)
 ·rcases sE hg rq with ⟨y,u,rfl,rfl,Fy⟩|⟨_,u,rfl,rfl,_,Fy⟩
  ·obtain ⟨Fr,z⟩:=zS Fx Fy e
   exact AutoFloatOps.truediv_if_2 (zL Fx) (by simp [z]) (pY Fr)
  ·exact oW hm
end
section
variable {prog:aG} {w:au} {A:aX} {X:List aF}
theorem pB (h:FR f x):Ev prog w φ (.Constant (.float x) k pos) (.fx f):=.mk λs i=>
 ab (wm.run (prog:=prog) (w:=w) (φ:=φ) s i) (λv s' uu=>eA uu λa r=>⟨a,by unfold mV at r ⊢;obtain ⟨t,e⟩:=r;exact ⟨_,t,e,h⟩⟩) λz z e=>e
theorem uh (f:Fx) (hx:Float64.decode x= .fin a m e) (h:f=⟨a,m*2^(e+1074).toNat⟩):FR f x:=
 ⟨⟨_,_,_,hx⟩,by rw [Float64.val_eq hx,h]⟩
theorem H9 (e:D5 f=aa r):og prog w A X (cf .Mod) (.fx f) (.float r8) (.fx r):=λs x y j rp rq=>by
 refine o6 rp ?_;clear rp;intro x t Ub Fx;obtain rfl:=Ub;obtain ⟨u,rfl⟩:=rq
 have z:Float64.isZero r8=false:=by decide+kernel
 exact AutoFloatOps.mod_1 (by simp [z]) (pY (Mn Fx e))
theorem Be:og prog w A X (bP .Lt) (.fx f) (.fx g) (.bool (vh f g)):=λs x y z rp rq=>by
 refine o6 rp ?_;clear rp;intro x t Ub Fx;obtain rfl:=Ub;refine o6 rq ?_;clear rq;intro y u Ub Fy;obtain rfl:=Ub
 exact AutoFloatOps.lt_0 ⟨mU _,by unfold mV;rw [D4 Fx Fy]⟩
theorem Eb:og prog w A X (bP .LtE) (.fx f) (.fx g) (.bool (vh f g||tw f g)):=λs x y z rp rq=>by
 refine o6 rp ?_;clear rp;intro x t Ub Fx;obtain rfl:=Ub;refine o6 rq ?_;clear rq;intro y u Ub Fy;obtain rfl:=Ub
 exact AutoFloatOps.le_0 ⟨mU _,by unfold mV;rw [D4 Fx Fy,Im Fx Fy]⟩
theorem A0:og prog w A X (bP .Eq) (.fx f) (.fx g) (.bool (tw f g)):=λs x y z rp rq=>by
 refine o6 rp ?_;clear rp;intro x t Ub Fx;obtain rfl:=Ub;refine o6 rq ?_;clear rq;intro y u Ub Fy;obtain rfl:=Ub
 exact jZ ⟨mU _,by unfold mV;rw [Im Fx Fy]⟩
def xl (n:Int):Fx:=⟨decide (n<0),de n.natAbs U⟩
theorem N0 (n:Int):fA (xl n).s (xl n).m=n*2^1074:=by
 show fA (decide (n<0)) (de n.natAbs U)=_
 rw [jU,Float64.sgn_mul]
 have e1:(U:Int)=(2:Int)^1074:=by unfold U;rw [Int.natCast_pow];rfl
 rw [e1]
 congr 1
 unfold fA
 by_cases h:n<0
 ·rw [decide_eq_true h];simp only [if_true];omega
 ·rw [decide_eq_false h];simp only [a9,if_false];omega
theorem Ka (hx:FR f x) (n:Int):my x n=aa (compare (fA f.s f.m) (fA (xl n).s (xl n).m)):=by
 refine vA hx.1 λa m e h=> ?_
 rw [Float64.cmpInt_right h,hx.2,N0]
theorem zk (hx:FR f x) (n:Int):(my x n==aa Ordering.eq)=tw f (xl n):=by
 rw [Ka hx,GS]
 rcases js (fA f.s f.m) (fA (xl n).s (xl n).m) with h|h|h
 ·rw [jt.mpr h,decide_eq_false (by exact (mK (.i (.B xA xB) (.n (.E xA xB))) [] [_,_]) h)];rfl
 ·rw [h,decide_eq_true rfl,Int.compare_eq_eq.mpr rfl];rfl
 ·rw [ju.mpr h,decide_eq_false (by exact (mK (.i (.B xB xA) (.n (.E xA xB))) [] [_,_]) h)];rfl
theorem Lf:og prog w A X (bP .Eq) (.fx f) (.int n) (.bool (tw f (xl n))):=λs x y z rp rq=>by
 refine o6 rp ?_;clear rp;intro x t Ub Fx;obtain rfl:=Ub;obtain ⟨u,rfl⟩:=rq
 exact eq_fi ⟨mU _,by unfold mV;rw [zk Fx]⟩
theorem My:og prog w A X (bP .Eq) (.int n) (.fx f) (.bool (tw f (xl n))):=λs x y z rp rq=>by
 obtain ⟨u,rfl⟩:=rp;refine o6 rq ?_;clear rq;intro x t Ub Fx;obtain rfl:=Ub
 exact eq_if ⟨mU _,by unfold mV;rw [zk Fx]⟩
end
end
section
open PySem.Calls PyProof.Rows PySem.Flt
section
variable {prog:aG} {w:au} {A:aX} {X:List aF} {I:aW->Prop}
theorem Bt (e:HR f=aa n):pZ prog w A X I (.type "int") [.fx f] (.int n):=λs vs z z r=>by
 refine mX (qQ r) λv Ub r1=> ?_;obtain rfl:=Ub
 refine o6 r1 ?_;clear r1;intro x t Ub Fx;obtain rfl:=Ub
 refine wK (OX Fx e) λa m k hd ht=> ?_
 exact call_int_float hd (qG ht)
def uv:PV->PV->Bool
 |.int a,.int b=>decide (a<b)
 |.fx f,.fx g=>vh f g
 |_,_=>false
def qw:PV->PV->Prop
 |.int _,.int _=>True
 |.fx _,.fx _=>True
 |_,_=>False
theorem xZ (n:qw p q):(∃a b,p= .int a/\q= .int b)\/ ∃f g,p= .fx f/\q= .fx g:=by
 cases p with
 |int a=>cases q with
  |int b=>exact .inl ⟨a,b,rfl,rfl⟩
  |_=>exact n.elim
 |fx a=>cases q with
  |fx b=>exact .inr ⟨a,b,rfl,rfl⟩
  |_=>exact n.elim
 |_=>exact n.elim
theorem vO (n:qw p q) (a:mV X h p v) (b:mV X h q u):ltV v u=uv p q:=by
 rcases xZ n with ⟨_,_,rfl,rfl⟩|⟨_,_,rfl,rfl⟩
 ·obtain ⟨t,rfl⟩:=a;obtain ⟨t',rfl⟩:=b;rfl
 ·refine o6 a ?_;clear a;intro x t Ub Fx;obtain rfl:=Ub;refine o6 b ?_;clear b;intro y t' Ub Fy;obtain rfl:=Ub
  exact D4 Fx Fy
theorem sJ (n:qw p q) (a:mV X h p v):NumV v:=by
 rcases xZ n with ⟨_,_,rfl,rfl⟩|⟨_,_,rfl,rfl⟩
 ·obtain ⟨t,rfl⟩:=a;constructor
 ·obtain ⟨x,t,rfl,Fx⟩:=a;constructor
def nJ (p q r:PV):PV:=cond (uv p q) (cond (uv q r) r q) (cond (uv p r) r p)
def qu (p q r:PV):PV:=cond (uv q p) (cond (uv r q) r q) (cond (uv r p) r p)
theorem yE {s:aq} {Q:ay->aq->Prop} (hh:A.handled=az) (ha:NumV a) (hb:NumV b) (hc:NumV c)
  (h: ∀h' tk,m4 s.heap h'->Q (cond (ltV a b) (cond (ltV b c) c b) (cond (ltV a c) c a)) {s with heap:=h',toks:=tk}):
  aC (aI prog w) A (ft (.builtin "max") [a,b,c]) Q E s:=by
 have hT:(s.heap.push {cls:=.type "tuple",data:=.seq #[a,b,c]}).IsTuple s.heap.objs.size #[a,b,c]:=⟨_,av _ rfl,rfl,0,rfl⟩
 refine call_max_three (et hT ?_)
 have hsz:(s.heap.push {cls:=.type "tuple",data:=.seq #[a,b,c]}).objs.size=s.heap.objs.size+1:=cw ..
 refine ⟨_,[_,s.heap.objs.size],[_],_,_,_,_,rfl,kL (A:=A.in1) hh _ s.heap.objs.size (by rw [hsz];exact dj (dw _)) #[a,b,c],
  ⟨⟨_,av _ rfl,rfl,rfl⟩,hT.push _⟩,λd hd=> ?_,by simp,cmpOf_gt #[a,b,c] (by simp [ha,hb,hc]),λv h' tk hP hk=> ?_⟩
 ·show d<((s.heap.push _).push _).objs.size
  rw [cw,hsz]
  rcases ao.mp hd with rfl|hd
  ·rw [hsz];exact dw _
  ·rcases ao.mp hd with rfl|hd
   ·exact gH (dw _)
   ·cases hd
 ·have Xn:m4 s.heap h':=λd o e=>by
   refine hk d o (λhm=> ?_) (aO _ (aO _ e))
   rcases ao.mp hm with e1|hm
   ·have:=aR e;rw [e1,hsz] at this;exact bY _ (gI this)
   ·cases hm
  have:=h h' tk Xn
  have hv:v=cond (ltV a b) (cond (ltV b c) c b) (cond (ltV a c) c a):=by
   have hP':(#[a,b,c]:Array ay)[mh (λi j=>ltV ((#[a,b,c]:Array ay).getD j .none) ((#[a,b,c]:Array ay).getD i .none)) 2]? =aa v:=hP
   cases e1:ltV a b<;>cases e2:ltV b c<;>cases e3:ltV a c<;>simpa [mh,e1,e2,e3] using hP'.symm
  rw [hv];exact this
theorem yL {s:aq} {Q:ay->aq->Prop} (hh:A.handled=az) (ha:NumV a) (hb:NumV b) (hc:NumV c)
  (h: ∀h' tk,m4 s.heap h'->Q (cond (ltV b a) (cond (ltV c b) c b) (cond (ltV c a) c a)) {s with heap:=h',toks:=tk}):
  aC (aI prog w) A (ft (.builtin "min") [a,b,c]) Q E s:=by
 have hT:(s.heap.push {cls:=.type "tuple",data:=.seq #[a,b,c]}).IsTuple s.heap.objs.size #[a,b,c]:=⟨_,av _ rfl,rfl,0,rfl⟩
 refine call_min_three (et hT ?_)
 have hsz:(s.heap.push {cls:=.type "tuple",data:=.seq #[a,b,c]}).objs.size=s.heap.objs.size+1:=cw ..
 refine ⟨_,[_,s.heap.objs.size],[_],_,_,_,_,rfl,kL (A:=A.in1) hh _ s.heap.objs.size (by rw [hsz];exact dj (dw _)) #[a,b,c],
  ⟨⟨_,av _ rfl,rfl,rfl⟩,hT.push _⟩,λd hd=> ?_,by simp,cmpOf_lt #[a,b,c] (by simp [ha,hb,hc]),λv h' tk hP hk=> ?_⟩
 ·show d<((s.heap.push _).push _).objs.size
  rw [cw,hsz]
  rcases ao.mp hd with rfl|hd
  ·rw [hsz];exact dw _
  ·rcases ao.mp hd with rfl|hd
   ·exact gH (dw _)
   ·cases hd
 ·have Xn:m4 s.heap h':=λd o e=>by
   refine hk d o (λhm=> ?_) (aO _ (aO _ e))
   rcases ao.mp hm with e1|hm
   ·have:=aR e;rw [e1,hsz] at this;exact bY _ (gI this)
   ·cases hm
  have:=h h' tk Xn
  have hv:v=cond (ltV b a) (cond (ltV c b) c b) (cond (ltV c a) c a):=by
   have hP':(#[a,b,c]:Array ay)[mh (λi j=>ltV ((#[a,b,c]:Array ay).getD i .none) ((#[a,b,c]:Array ay).getD j .none)) 2]? =aa v:=hP
   cases e1:ltV b a<;>cases e2:ltV c b<;>cases e3:ltV c a<;>simpa [mh,e1,e2,e3] using hP'.symm
  rw [hv];exact this
theorem AF (hh:A.handled=az) (n1:qw p q) (n2:qw q r) (n3:qw p r) (n4:qw r p):pZ prog w A X I (.builtin "max") [p,q,r] (nJ p q r):=λs vs z z rr=>by
 refine sa (zK rr) λv1 v2 v3 Ub r1 r2 r3=> ?_;obtain rfl:=Ub
 refine yE hh (sJ n1 r1) (sJ n2 r2) (sJ n4 r3) λh' tk k=>⟨⟨_,_,rfl,k⟩,?_⟩
 rw [vO n1 r1 r2,vO n2 r2 r3,vO n3 r1 r3]
 unfold nJ
 cases uv p q<;>cases uv q r<;>cases uv p r<;>dsimp only [cond]<;>first|exact r1.keep k|exact r2.keep k|exact r3.keep k
theorem su (n:qw p q):qw q p:=by
 rcases xZ n with ⟨_,_,rfl,rfl⟩|⟨_,_,rfl,rfl⟩<;>trivial
theorem A2 (hh:A.handled=az) (n1:qw p q) (n2:qw q r) (n3:qw p r) (n4:qw r p):pZ prog w A X I (.builtin "min") [p,q,r] (qu p q r):=λs vs z z rr=>by
 refine sa (zK rr) λv1 v2 v3 Ub r1 r2 r3=> ?_;obtain rfl:=Ub
 refine yL hh (sJ n1 r1) (sJ n2 r2) (sJ n4 r3) λh' tk k=>⟨⟨_,_,rfl,k⟩,?_⟩
 rw [vO (su n1) r2 r1,vO (su n2) r3 r2,vO n4 r3 r1]
 unfold qu
 cases uv q p<;>cases uv r q<;>cases uv r p<;>dsimp only [cond]<;>first|exact r1.keep k|exact r2.keep k|exact r3.keep k
end
def G6 (op:Fx->Fx->Option Fx) (p q:PV):Option PV:=match nv p with
 |none=>az
 |some f=>match nv q with
  |none=>az
  |some g=>match op f g with
   |none=>az
   |some r=>cond (wG p||wG q) (aa (.fx r)) az
theorem wi (e:G6 op p q=aa r): ∃f g k,nv p=aa f/\nv q=aa g/\op f g=aa k/\(wG p||wG q)=ai/\r= .fx k:=by
 unfold G6 at e
 cases h1:nv p with
 |none=>rw [h1] at e;exact nE e
 |some f=>
  cases h2:nv q with
  |none=>rw [h1,h2] at e;exact nE e
  |some g=>
   rw [h1,h2] at e
   dsimp only at e
   cases h3:op f g with
   |none=>rw [h3] at e;exact nE e
   |some k=>
    rw [h3] at e
    dsimp only at e
    cases h4:(wG p||wG q) with
    |false=>rw [h4] at e;exact nE e
    |true=>rw [h4] at e;obtain rfl:=am e;exact ⟨f,g,k,rfl,rfl,h3,rfl,rfl⟩
def qK (p q:PV):Option PV:=match p,q with
 |.int a,.int b=>aa (.int (a+b))
 |p,q=>G6 Ce p q
def n0 (p q:PV):Option PV:=match p,q with
 |.int a,.int b=>aa (.int (a - b))
 |p,q=>G6 LB p q
def pJ (p q:PV):Option PV:=G6 Mg p q
def qP (p q:PV):Option PV:=match p,q with
 |.int a,.int b=>match Bd a b with|none=>az|some r=>aa (.fx r)
 |p,q=>G6 y4 p q
def B1 (p:PV):Option PV:=match p with
 |.fx f=>match D5 f with|none=>az|some r=>aa (.fx r)
 |_=>az
def rZ (p q:PV):Bool:=match p,q with
 |.int a,.int b=>a==b
 |.fx f,.fx g=>tw f g
 |.fx f,.int n=>tw f (xl n)
 |.int n,.fx f=>tw f (xl n)
 |_,_=>false
noncomputable def uC:PV->Bool|.int _=>ai|.fx _=>ai|_=>false
section
variable {prog:aG} {w:au} {A:aX} {X:List aF} {I:aW->Prop} {p q r:PV}
theorem qI (e:qK p q=aa r):og prog w A X (cf .Add) p q r:=by
 unfold qK at e
 split at e
 ·obtain rfl:=am e;exact n6
 ·refine uR (wi e) λf g k a b c d Ub=> ?_;obtain rfl:=Ub;exact Kq a b c d
theorem nY (e:n0 p q=aa r):og prog w A X (cf .Sub) p q r:=by
 unfold n0 at e
 split at e
 ·obtain rfl:=am e;exact nU
 ·refine uR (wi e) λf g k a b c d Ub=> ?_;obtain rfl:=Ub;exact JH a b c d
theorem pR (e:pJ p q=aa r):og prog w A X (cf .Mult) p q r:=by
 refine uR (wi e) λf g k a b c d Ub=> ?_;obtain rfl:=Ub;exact Jq a b c d
theorem rm (e:qP p q=aa r):og prog w A X (cf .Div) p q r:=by
 unfold qP at e
 split at e
 ·split at e
  ·exact nE e
  ·rename_i h;obtain rfl:=am e;exact JY h
 ·refine uR (wi e) λf g k a b c d Ub=> ?_;obtain rfl:=Ub;exact KX a b c d
theorem Bf (e:B1 p=aa r):og prog w A X (cf .Mod) p (.float r8) r:=by
 unfold B1 at e
 split at e
 ·split at e
  ·exact nE e
  ·rename_i h;obtain rfl:=am e;exact H9 h
 ·exact nE e
theorem Hd (h:uC p=ai):(∃n,p= .int n)\/ ∃f,p= .fx f:=by
 cases p with
 |int n=>exact .inl ⟨n,rfl⟩
 |fx f=>exact .inr ⟨f,rfl⟩
 |_=>exact oW h
theorem tQ (hp:uC p=ai) (hq:uC q=ai):og prog w A X (bP .Eq) p q (.bool (rZ p q)):=by
 rcases Hd hp with ⟨_,rfl⟩|⟨_,rfl⟩<;>rcases Hd hq with ⟨_,rfl⟩|⟨_,rfl⟩
 ·exact qp
 ·exact My
 ·exact Lf
 ·exact A0
end
end
section
open PySem.Calls PyProof.Rows
noncomputable def nV (i:Nat):eh:=(mJ.main.body[i]?).getD (.Pass ku)
def pe (j:Nat):eh:=match nV 43 with
 |.ClassDef _ _ _ b _ _ _ _ _ _ _=>(b[j]?).getD (.Pass ku)
 |_=>.Pass ku
noncomputable def n7 (st:eh):List eh:=match st with
 |.FunctionDef _ _ b _ _ _ _ _ _ _=>b
 |_=>[]
noncomputable def SA (st:eh) (q:Str) (dV kV doc pm:ay) (an:Option aF) (cdv ct:ay):bz:=match st with
 |.FunctionDef n a b _ _ _ sc _ _ _=>{name:=n,qualname:=q,params:=a,body:=.stmts b,scope:=sc,globals:=bn,closure:=[],defaults:=dV,kwdefaults:=kV,doc:=doc,pyModule:=pm,annotations:=an,code:=cdv,closureTuple:=ct,builtins:=dh}
 |_=>ku
noncomputable def pA (k:Nat):Nat:=if k<10 then 48+k else 55+k
def pC (k:Nat):List Nat:=[61,pA (k/16),pA (k % 16)]
def Ar (n:Nat):List ay:=(ag n).map λc=>.str (S (pC c)) (299+4*c)
def vd (l:List ay) (cs:List Nat) (t:Nat):List ay:=cs.zipIdx.foldl (λl c=>l.set c.1 (.str (S [c.1]) (t+3*c.2))) l
noncomputable def yy:List Nat:=[45,33,42,43,47]++(ag 26).map (97+ ·)++(ag 26).map (65+ ·)++(ag 10).map (48+ ·)
noncomputable def xy:List Nat:=((ag 29).map (32+ ·))++(ag 65).map (62+ ·)++[9]
noncomputable def JJ (st:eh):Str:=match st with
 |.FunctionDef n _ _ _ _ _ _ _ _ _=>n
 |_=>""
noncomputable def kh (P:aQ) (x:Str):Int:=g9 P x
def en (P:aQ) (x:String) (t:Nat) (v:ay):jg:=⟨kh P (.ofString x),.str (.ofString x) t,v⟩
noncomputable def sS (x:String) (t:Nat):ay:=.str (.ofString x) t
noncomputable def oD (l:Array jg) (n:Nat):Obj:=⟨.type "dict",az,.dict l n,#[]⟩
noncomputable def oT (l:Array ay):Obj:=⟨.type "tuple",az,.seq l 0,#[]⟩
noncomputable def oL (l:Array ay):Obj:=⟨.type "list",az,.seq l 0,#[]⟩
noncomputable def oC (l:Array ay):Obj:=⟨.type "code",az,.fields l,#[]⟩
def T7 (st:eh) (q:Str):bz:={SA st q .none .none .none .none az .none .none with globals:=0,builtins:=0}
noncomputable def oF (c:String) (l:List ay):Obj:=⟨.type c,az,.fields l.toArray,#[]⟩
noncomputable def oN (l:List ay):Obj:=⟨.none,az,.fields l.toArray,#[]⟩
def nS (t:Nat) (l:List String):List ay:=l.zipIdx.map λq=>sS q.1 (t+q.2)
noncomputable def iS (l:List Nat):List ay:=l.map λn=>.int (.ofNat n) 0
def Ru (t:Nat):ay:=sS "/claim/cut.py" t
noncomputable def fo (fd:bz):Obj:=⟨.type "function",az,.func fd,#[]⟩
def mA:ay:=sS "__main__" 164
def mB:ay:=sS "cpy313.email.quoprimime" 1336
def mC:ay:=sS "cpy313.colorsys" 1900
def mD:ay:=sS "cpy313.smtplib" 1985
def mE:ay:=sS "cpy313.wsgiref.headers" 2054
def mF:ay:=sS "law_wv0059_01" 2317
abbrev FF (α:Type):=eh->String->ay->ay->Nat->Nat->Nat->Nat->Nat->Nat->Option (List String)->α
def rY:FF bz:=λst q md dv c z z z z z z=>SA st (.ofString q) dv .none .none md az (.ref c) .none
def IJ (n q:ay) (t ln ac ko fl a e k:Nat) (b:Bool) (vs:List ay):Obj:=oC ([n,q,Ru (t+2),.int (.ofNat ln) 0,.int (.ofNat ac) 0,.int 0 0,.int (.ofNat ko) 0,.int (.ofNat fl) 0,.ref a,.bool b,.int (.ofNat k) 0,.ref (a+1),.none]++vs++[.int (.ofNat e) 0,.int (.ofNat ln) 0,Ru (e+1)]).toArray
def NQ:FF Obj:=λst q z z c t ln ac ko fl vs=>match vs with
 |some l=>IJ (.str (JJ st) t) (sS q (t+1)) t ln ac ko fl (c - 5) (t+3+l.length) 276 ai [.ref (c - 3),.ref (c - 2),.ref (c - 1)]
 |none=>IJ (.str (JJ st) t) (sS q (t+1)) t ln ac ko fl (c - 3) (t+3) 276 ai [.none,.none,.ref (c - 1)]
def qz:FF (List Obj):=λst q md dv c t ln ac ko fl vs=>oT #[]::oN []::((match vs with
 |some l=>[oT (nS (t+3) l).toArray,oT #[]]
 |none=>[])++[⟨.none,az,.func (T7 st (.ofString q)),#[]⟩,NQ st q md dv c t ln ac ko fl vs,fo (rY st q md dv c t ln ac ko fl vs)])
def sr:FF Frag:=λst q md dv c t ln ac ko fl vs=>[(c,NQ st q md dv c t ln ac ko fl vs),(c+1,fo (rY st q md dv c t ln ac ko fl vs))]
def Qo {α:Type} (f:FF α):α:=f (nV 16) "unquote" mB .none 60 1835 21 1 0 3 (aa ["s"])
def PP {α:Type} (f:FF α):α:=f (nV 17) "quote" mB .none 67 1842 23 1 0 3 (aa ["c"])
def QO {α:Type} (f:FF α):α:=f (nV 18) "header_encode" mB (.ref 69) 75 1850 25 2 0 3 (aa ["header_bytes","charset","encoded"])
def QP {α:Type} (f:FF α):α:=f (nV 22) "body_encode" mB (.ref 82) 88 1868 34 3 0 3 (aa ["body","maxlinelen","eol","soft_break","maxlinelen1","encoded_body","append","line","start","laststart","stop","room","q"])
def Qk {α:Type} (f:FF α):α:=f (nV 23) "decode" mB (.ref 90) 96 1887 72 2 0 3 (aa ["encoded","eol","decoded","line","i","n","c"])
def K6 {α:Type} (f:FF α):α:=f (nV 28) "rgb_to_hls" mC .none 103 1914 106 3 0 3 (aa ["r","g","b","maxc","minc","sumc","rangec","l","s","rc","gc","bc","h"])
def K0 {α:Type} (f:FF α):α:=f (nV 29) "hls_to_rgb" mC .none 110 1933 129 3 0 3 (aa ["h","l","s","m2","m1"])
def MZ {α:Type} (f:FF α):α:=f (nV 30) "_v" mC .none 117 1944 138 3 0 3 (aa ["m1","m2","hue"])
def MN {α:Type} (f:FF α):α:=f (nV 31) "rgb_to_hsv" mC .none 124 1953 147 3 0 3 (aa ["r","g","b","maxc","minc","rangec","v","s","rc","gc","bc","h"])
def Lk {α:Type} (f:FF α):α:=f (nV 32) "hsv_to_rgb" mC .none 131 1971 166 3 0 3 (aa ["h","s","v","i","f","p","q","t"])
def LR {α:Type} (f:FF α):α:=f (nV 37) "quotedata" mD .none 148 2047 191 1 0 3 (aa ["data"])
def SW {α:Type} (f:FF α):α:=f (nV 42) "_formatparam" mE (.ref 165) 171 2151 197 3 0 3 (aa ["param","value","quote"])
def MX {α:Type} (f:FF α):α:=f (pe 0) "Headers.__init__" mE (.ref 180) 186 2172 208 2 0 3 (aa ["self","headers","k","v"])
def MU {α:Type} (f:FF α):α:=f (pe 1) "Headers._convert_string_type" mE .none 193 2182 218 2 1 3 (aa ["self","value","name","regex"])
def S9 {α:Type} (f:FF α):α:=f (pe 2) "Headers.__len__" mE .none 200 2192 226 1 0 3 (aa ["self"])
def S1 {α:Type} (f:FF α):α:=f (pe 3) "Headers.__setitem__" mE .none 207 2199 229 3 0 3 (aa ["self","name","val"])
def Ta {α:Type} (f:FF α):α:=f (pe 4) "Headers.__delitem__" mE .none 212 2208 233 2 0 3 az
def Tw {α:Type} (f:FF α):α:=f (pe 5) "Headers.__getitem__" mE .none 219 2214 237 2 0 3 (aa ["self","name"])
def Tt {α:Type} (f:FF α):α:=f (pe 6) "Headers.__contains__" mE .none 226 2222 240 2 0 3 (aa ["self","name"])
def LV {α:Type} (f:FF α):α:=f (pe 7) "Headers.get_all" mE .none 231 2230 243 2 0 3 az
def Lg {α:Type} (f:FF α):α:=f (pe 8) "Headers.get" mE (.ref 233) 239 2236 247 3 0 3 (aa ["self","name","default","k","v"])
def Mz {α:Type} (f:FF α):α:=f (pe 9) "Headers.keys" mE .none 244 2247 254 1 0 3 az
def MI {α:Type} (f:FF α):α:=f (pe 10) "Headers.values" mE .none 249 2253 257 1 0 3 az
def LL {α:Type} (f:FF α):α:=f (pe 11) "Headers.items" mE .none 256 2259 260 1 0 3 (aa ["self"])
def Tg {α:Type} (f:FF α):α:=f (pe 12) "Headers.__repr__" mE .none 263 2266 263 1 0 3 (aa ["self"])
def K2 {α:Type} (f:FF α):α:=f (pe 13) "Headers.__str__" mE .none 268 2273 266 1 0 3 az
def Th {α:Type} (f:FF α):α:=f (pe 14) "Headers.__bytes__" mE .none 275 2279 269 1 0 3 (aa ["self"])
def Tl {α:Type} (f:FF α):α:=f (pe 15) "Headers.setdefault" mE .none 282 2286 272 3 0 3 (aa ["self","name","value"])
def LP {α:Type} (f:FF α):α:=f (pe 16) "Headers.add_header" mE .none 289 2295 275 3 0 11 (aa ["self","_name","_value","_params","parts","k","v"])
def LU {α:Type} (f:FF α):α:=f (nV 45) "_law_hue" mF .none 303 2319 289 1 0 3 (aa ["place","sixth","rise","fall","paints","red","green","blue"])
def M5 {α:Type} (f:FF α):α:=f (nV 46) "_law_turned" mF .none 308 2333 295 5 0 3 az
def ME {α:Type} (f:FF α):α:=f (nV 47) "_law_grey" mF .none 315 2339 309 2 0 3 (aa ["value","way","grey","told"])
def LX {α:Type} (f:FF α):α:=f (nV 48) "_law_told" mF .none 320 2349 313 1 0 3 az
def M0 {α:Type} (f:FF α):α:=f (nV 49) "_law_refused" mF .none 327 2355 326 1 0 3 (aa ["attempt","error"])
def D9 {α:Type} (f:FF α):α:=f (nV 50) "law" mF .none 332 2363 332 1 0 3 az
def TA:bz:=Qo rY
def S7:bz:=PP rY
def Tn:bz:=QO rY
def v5:bz:=QP rY
def w7:bz:=Qk rY
def IC:bz:=K6 rY
def RA:bz:=K0 rY
def Rz:bz:=MZ rY
def xY:bz:=MN rY
def RI:bz:=Lk rY
def RZ:bz:=LR rY
def tF:bz:=MX rY
def B5:bz:=MU rY
def RL:bz:=LV rY
def Sn:bz:=Lg rY
def RX:bz:=Mz rY
def RN:bz:=MI rY
def RG:bz:=LL rY
def R1:bz:=K2 rY
def rC:bz:=LP rY
def Nb:bz:=LU rY
def zU:bz:=M5 rY
def wT:bz:=ME rY
def IR:bz:=LX rY
def qH:bz:=M0 rY
def pH:bz:=D9 rY
def gE (P:aQ):List jg:=[en P "__doc__" 166 .none,en P "__package__" 167 .none,en P "__loader__" 168 (.builtin "__main__.__loader__#opaque"),en P "__spec__" 169 .none,en P "__annotations__" 170 (.ref 6),en P "__builtins__" 171 (.ref 4),en P "__file__" 173 (sS "/claim/cut.py" 172),en P "__cached__" 174 .none,en P "_sre" 275 (.ref 12),en P "_wall" 288 (.ref 38),en P "CRLF_quoprimime" 290 (sS "\r\n" 289),en P "NL" 292 (sS "\n" 291),en P "_QUOPRI_MAP" 1320 (.ref 41),en P "_QUOPRI_HEADER_MAP" 1321 (.ref 46),en P "_QUOPRI_BODY_MAP" 1322 (.ref 48),en P "ascii_lowercase" 1324 (sS "abcdefghijklmnopqrstuvwxyz" 1323),en P "ascii_uppercase" 1326 (sS "ABCDEFGHIJKLMNOPQRSTUVWXYZ" 1325),en P "ascii_letters" 1328 (sS "abcdefghijklmnopqrstuvwxyzABCDEFGHIJKLMNOPQRSTUVWXYZ" 1327),en P "digits" 1330 (sS "0123456789" 1329),en P "hexdigits" 1335 (sS "0123456789abcdefABCDEF" 1334),en P "unquote" 1841 (.ref 61),en P "quote" 1848 (.ref 68),en P "header_encode" 1858 (.ref 76),en P "_QUOPRI_BODY_ENCODE_MAP" 1859 (.ref 78),en P "body_encode" 1886 (.ref 89),en P "decode" 1899 (.ref 97),en P "ONE_THIRD" 1905 (.float 4599676419421066581 1904),en P "ONE_SIXTH" 1909 (.float 4595172819793696085 1908),en P "TWO_THIRD" 1913 (.float 4604180019048437077 1912),en P "rgb_to_hls" 1932 (.ref 104),en P "hls_to_rgb" 1943 (.ref 111),en P "_v" 1952 (.ref 118),en P "rgb_to_hsv" 1970 (.ref 125),en P "hsv_to_rgb" 1984 (.ref 132),en P "_twin_re_1" 2002 (.ref 137),en P "_twin_re_2" 2044 (.ref 142),en P "CRLF_smtplib" 2046 (sS "\r\n" 2045),en P "quotedata" 2053 (.ref 149),en P "tspecials" 2089 (.ref 154),en P "_name_disallowed_re" 2115 (.ref 159),en P "_value_disallowed_re" 2149 (.ref 164),en P "_formatparam" 2159 (.ref 172),en P "Headers" 2316 (.ref 293),en P "_law_hue" 2332 (.ref 304),en P "_law_turned" 2338 (.ref 309),en P "_law_grey" 2348 (.ref 316),en P "_law_told" 2354 (.ref 321),en P "_law_refused" 2362 (.ref 328),en P "law" 2368 (.ref 333)]
def gD (P:aQ) (m:ay) (k n:Nat):Obj:=oD (en P "__name__" 165 m::(gE P).take k).toArray n
noncomputable def oQ (l:List ay) (n:Nat):Obj:=⟨.type "list",az,.seq l.toArray n,#[]⟩
def o3 (P:aQ):Obj:=gD P (sS "law_wv0059_01" 2317) 49 52
def Rj:Obj:=oQ (Ar 256) 256
def ND:Obj:=oQ ((vd (Ar 256) yy 1347).set 32 (sS "_" 1546)) 0
def Nr:Obj:=oQ (vd (Ar 256) xy 1552) 0
def Nf:Obj:=oT #[(sS "iso-8859-1" 1849)]
def NT:Obj:=oQ (vd (vd (Ar 256) xy 1552) [13,10] 1863) 0
def KA:Obj:=oT #[(.int 76 1867),(sS "\n" 291)]
def No:Obj:=oT #[(sS "\n" 291)]
def pT (l:List Nat):Obj:=oT (iS l).toArray
def pP (s:String) (t fl a n:Nat):Obj:=oF "re.Pattern" [sS s t,.int (.ofNat fl) (t+3+n),.int 0 0,.none,.none,.ref a,.int 0 0]
noncomputable def PF:List Nat:=[14,4,0,1,1,6,1,16,46,1]
def Ql:Obj:=pT PF
def Mu:Obj:=pP "(?m)^\\." 1988 40 136 10
noncomputable def PE:List Nat:=[14,9,4,1,2,16,10,16,13,0,7,7,16,13,16,10,15,18,5,16,10,15,13,11,16,13,5,5,0,16,10,1,15,2,0,1]
def QM:Obj:=pT PE
def M1:Obj:=pP "(?:\\r\\n|\\n|\\r(?!\\n))" 2004 32 141 36
noncomputable def S4:List Nat:=[14,14,4,1,1,9,0,4227896069,939524097,0,0,0,0,0,0,13,11,9,0,4227896069,939524097,0,0,0,0,0,0,1]
noncomputable def Qq:List Nat:=[14,10,4,1,1,22,0,31,16,127,0,13,7,22,0,31,16,127,0,1]
def PD:Obj:=pT Qq
def HU:Obj:=pP "[\\x00-\\x1F\\x7F]" 2091 32 158 20
noncomputable def QY:List Nat:=[14,14,4,1,1,9,4294966783,0,0,2147483648,0,0,0,0,0,13,11,9,4294966783,0,0,2147483648,0,0,0,0,0,1]
def QQ:Obj:=pT QY
def CA:Obj:=pP "[\\x00-\\x08\\x0A-\\x1F\\x7F]" 2117 32 163 28
def HW:Obj:=oT #[.none]
def LY:Obj:=oT #[.none]
def SE (P:aQ):List jg:=[en P "__firstlineno__" 2171 (.int 206 2170),en P "__init__" 2181 (.ref 187),en P "_convert_string_type" 2191 (.ref 194),en P "__len__" 2198 (.ref 201),en P "__setitem__" 2207 (.ref 208),en P "__delitem__" 2213 (.ref 213),en P "__getitem__" 2221 (.ref 220),en P "__contains__" 2229 (.ref 227),en P "get_all" 2235 (.ref 232),en P "get" 2246 (.ref 240),en P "keys" 2252 (.ref 245),en P "values" 2258 (.ref 250),en P "items" 2265 (.ref 257),en P "__repr__" 2272 (.ref 264),en P "__str__" 2278 (.ref 269),en P "__bytes__" 2285 (.ref 276),en P "setdefault" 2294 (.ref 283),en P "add_header" 2307 (.ref 290),en P "__static_attributes__" 2309 (.ref 291),en P "__dict__" 2311 (.ref 294),en P "__weakref__" 2313 (.ref 295),en P "__doc__" 2314 .none]
def Qe (P:aQ):Obj:=oD (en P "__module__" 2167 (sS "cpy313.wsgiref.headers" 2054)::SE P).toArray 4
noncomputable def oK (n:String) (a d:Nat) (s:Array (Option ay)):Obj:=⟨.type "type",az,.cls {name:=.ofString n,bases:=[.type "object"],mro:=[.ref a,.type "object"],ns:=d,qualname:=.ofString n,hasDict:=ai,slotNames:=[],subclasses:=[],abstract:=false,collection:=az,hasDel:=false},s⟩
def QA:Obj:=oK "Headers" 293 292 #[az,az,aa (sS "Headers" 2160),aa (sS "Headers" 2168),aa (.builtin "object.__new__"),aa (.bool ai)]
def KB (P:aQ):Frag:=[(3,o3 P),(41,Rj),(46,ND),(48,Nr)]++(Qo sr++(PP sr++([(69,Nf)]++(QO sr++([(78,NT),(82,KA)]++(QP sr++([(90,No)]++(Qk sr++(K6 sr++(K0 sr++(MZ sr++(MN sr++(Lk sr++([(136,Ql),(137,Mu),(141,QM),(142,M1)]++(LR sr++([(158,PD),(159,HU),(163,QQ),(164,CA),(180,HW)]++(MX sr++(MU sr++(LV sr++([(233,LY)]++(Lg sr++(Mz sr++(MI sr++(LL sr++(K2 sr++(LP sr++([(292,Qe P),(293,QA)]++(LU sr++(M5 sr++(ME sr++(LX sr++(M0 sr++(D9 sr)))))))))))))))))))))))))))))))))
structure qW (P:aQ) (a:aF) (fd:bz) (body:List eh):Prop where
 e:(KB P).lookup a=aa ⟨.type "function",az,.func fd,#[]⟩
 b:fd.body= .stmts body
 c:codeIn (KB P) fd.code fd.qualname=ai
theorem Qc (P:aQ):qW P 61 TA (n7 (nV 16)):=⟨by kernel_rfl,rfl,by kernel_rfl⟩
theorem QH (P:aQ):qW P 68 S7 (n7 (nV 17)):=⟨by kernel_rfl,rfl,by kernel_rfl⟩
theorem IG (P:aQ):qW P 76 Tn (n7 (nV 18)):=⟨by kernel_rfl,rfl,by kernel_rfl⟩
theorem Cr (P:aQ):qW P 89 v5 (n7 (nV 22)):=⟨by kernel_rfl,rfl,by kernel_rfl⟩
theorem Cq (P:aQ):qW P 97 w7 (n7 (nV 23)):=⟨by kernel_rfl,rfl,by kernel_rfl⟩
theorem DZ (P:aQ):qW P 104 IC (n7 (nV 28)):=⟨by kernel_rfl,rfl,by kernel_rfl⟩
theorem Iq (P:aQ):qW P 111 RA (n7 (nV 29)):=⟨by kernel_rfl,rfl,by kernel_rfl⟩
theorem DS (P:aQ):qW P 118 Rz (n7 (nV 30)):=⟨by kernel_rfl,rfl,by kernel_rfl⟩
theorem vJ (P:aQ):qW P 125 xY (n7 (nV 31)):=⟨by kernel_rfl,rfl,by kernel_rfl⟩
theorem DQ (P:aQ):qW P 132 RI (n7 (nV 32)):=⟨by kernel_rfl,rfl,by kernel_rfl⟩
theorem Ii (P:aQ):qW P 149 RZ (n7 (nV 37)):=⟨by kernel_rfl,rfl,by kernel_rfl⟩
theorem RO (P:aQ):qW P 187 tF (n7 (pe 0)):=⟨by kernel_rfl,rfl,by kernel_rfl⟩
theorem zO (P:aQ):qW P 194 B5 (n7 (pe 1)):=⟨by kernel_rfl,rfl,by kernel_rfl⟩
theorem Ni (P:aQ):qW P 232 RL (n7 (pe 7)):=⟨by kernel_rfl,rfl,by kernel_rfl⟩
theorem Jn (P:aQ):qW P 240 Sn (n7 (pe 8)):=⟨by kernel_rfl,rfl,by kernel_rfl⟩
theorem Iw (P:aQ):qW P 245 RX (n7 (pe 9)):=⟨by kernel_rfl,rfl,by kernel_rfl⟩
theorem Ny (P:aQ):qW P 250 RN (n7 (pe 10)):=⟨by kernel_rfl,rfl,by kernel_rfl⟩
theorem DV (P:aQ):qW P 257 RG (n7 (pe 11)):=⟨by kernel_rfl,rfl,by kernel_rfl⟩
theorem RQ (P:aQ):qW P 269 R1 (n7 (pe 13)):=⟨by kernel_rfl,rfl,by kernel_rfl⟩
theorem D6 (P:aQ):qW P 290 rC (n7 (pe 16)):=⟨by kernel_rfl,rfl,by kernel_rfl⟩
theorem D7 (P:aQ):qW P 304 Nb (n7 (nV 45)):=⟨by kernel_rfl,rfl,by kernel_rfl⟩
theorem Nc (P:aQ):qW P 309 zU (n7 (nV 46)):=⟨by kernel_rfl,rfl,by kernel_rfl⟩
theorem NP (P:aQ):qW P 316 wT (n7 (nV 47)):=⟨by kernel_rfl,rfl,by kernel_rfl⟩
theorem NI (P:aQ):qW P 321 IR (n7 (nV 48)):=⟨by kernel_rfl,rfl,by kernel_rfl⟩
theorem RR (P:aQ):qW P 328 qH (n7 (nV 49)):=⟨by kernel_rfl,rfl,by kernel_rfl⟩
theorem RC (P:aQ):qW P 333 pH (n7 (nV 50)):=⟨by kernel_rfl,rfl,by kernel_rfl⟩
end
section
open PySem.Calls PyProof.Rows
noncomputable def Nl (s:String):List Nat:=(aS s).cps.toList
theorem zn (s:String):aS s=S (Nl s):=by
 unfold Nl S
 simp
noncomputable def v0:List Str:=["ord","chr","len","int","str","range","enumerate","zip","sum","sorted","divmod","max","min","list","tuple","bytes","type","ValueError","TypeError","AssertionError","repr"]
structure ox (P:aQ) (h:aW):Prop where
 frag:(KB P).In h
 lim:h.NoLimit
 blt: ∃mb,h.Ns dh mb/\ ∀x∈v0,mb x=ix x
theorem ox.keep (b:ox P h) (k:m4 h h'):ox P h':=
 ⟨b.frag.keeps k,b.lim.keeps k,let ⟨m,n,e⟩:=b.blt;⟨m,n.keeps k,e⟩⟩
set_option tactic.hygienic true in
theorem ox.glob (b:ox P h) (e:l8 (KB P) bn x=aa (aa v)) (ok:autoParam (nsOkIn (KB P) bn=ai) XX):B6 h x v:=
 ⟨_,.of_isNs (kJ b.frag ok),by
  have G:h.Ns bn (h.nsMap bn):=.of_isNs (kJ b.frag ok)
  refine sa G λo es ep ho hd _ hf=> ?_
  unfold l8 at e
  split at e
  ·rename_i c d es' n' sl q
   have:=b.frag _ _ q
   rw [ho] at this
   obtain rfl:=am this
   cases hd
   rw [<-hf]
   split at e
   ·rename_i en he
    cases e
    unfold nsFind findBy
    rw [<-Array.find?_toList,he]
    rfl
   ·split at e<;>cases e
  ·exact nE e⟩
theorem ox.bltIs (b:ox P h) (e:l8 (KB P) bn x=aa az) (hx:x∈v0) (hb:ix x=aa v) (ok:autoParam (nsOkIn (KB P) bn=ai) XX):Nw h x v:=by
 have G:h.Ns bn (h.nsMap bn):=.of_isNs (kJ b.frag ok)
 obtain ⟨mb,n,q⟩:=b.blt
 exact ⟨_,mb,G,ns_none_of b.frag G e,n,(q x hx).trans hb⟩
theorem ox.defAt {body:List eh} (b:ox P h) (T:qW P a fd body):xx h a fd body:=
 ⟨⟨_,b.frag _ _ T.e,rfl⟩,b.lim,codeRec_of b.frag T.c,T.b⟩
def sY (P:aQ) (X:List aF):Prop:= ∀a∈X,(KB P).lookup a=az
theorem zB (b:ox P h) (hl: ∀a∈l,h.get? a=az):sY P l:=λa ha=>by
 cases e:(KB P).lookup a with
 |none=>rfl
 |some o=>have:=b.frag _ _ e;rw [hl a ha] at this;exact nE this
theorem CB (a:sY P l) (b:sY P m):sY P (l++m):=λx hx=>(ar.mp hx).elim (a x) (b x)
theorem NY (h:sY P X) (e:(KB P).lookup a=aa o):a∉X:=λq=>by rw [h a q] at e;exact nE e
def pG (n:Nat) (A:aX):Prop:=A.handled=az/\A.depth+n<dC/\A.units+10*n+100<fw
theorem pG.deeper (r:pG (n+1) A) (env:Env):pG n (A.deeper env):=by
 obtain ⟨a,b,c⟩:=r
 refine ⟨a,?_,?_⟩
 ·exact (mK (.i (.b (.a xA (.a xB xI)) xC) (.b (.a (.a xA xI) xB) xC)) [_,_,_]) b
 ·exact (mK (.i (.b (.a (.a xA (.m 10 (.a xB xI))) xP) xC) (.b (.a (.a (.a xA xO) (.m 10 xB)) xP) xC)) [_,_,_]) c
theorem pG.lim (r:pG n A):A.depth<dC:=cY (jG ..) r.2.1
theorem pG.less (r:pG n A) (h:m<=n):pG m A:=⟨r.1,by have:=r.2.1;exact (mK (.i (.l xB xD) (.i (.b (.a xA xD) xC) (.b (.a xA xB) xC))) [_,_,_,_]) h this,by have:=r.2.2;exact (mK (.i (.l xB xD) (.i (.b (.a (.a xA (.m 10 xD)) xP) xC) (.b (.a (.a xA (.m 10 xB)) xP) xC))) [_,_,_,_]) h this⟩
section
variable {prog:aG} {w:au} {c:Sc} {σ:m7} {Λ:List (aF×List PV)}
theorem nt (he:Ev prog w (fs c σ Λ) e p) (hg:m4 g c.g:=by exact m4.rfl) (hY: ∀a∈Y,a∈c.X:=by exact λa h=>aM _ h):
  mZ prog w c.env c.A (In c σ Λ) (.Return (aa e) pos::b) (uD g Y p):=tj (GM he hg hY) (λz h=>h) λz z h=>h.2
theorem wB (base:ox w.params c.g) (off: ∀h,In c σ Λ h->sY w.params c.X) (gl:c.env.globals=bn) (fn:c.env.scope.kind= .function)
  (e:l8 (KB w.params) bn x=aa (aa (.ref a))) (ho:(KB w.params).lookup a=aa o)
  (hl:o.cls= .type "list"/\ ∃k,o.data= .seq vs.toArray k) (hr: ∀h,mR c.X h ps vs) (hx:autoParam (c.env.kindOf x=aa .globalImplicit) X1) (hd:autoParam ((x==("__debug__":Str))=false) XX):
  Ev prog w (fs c σ Λ) (.Name x pos) (.list ps):=.mk λs i=>by
 have b:=base.keep i.keep
 have:=(Cm (prog:=prog) (w:=w) (φ:=fs c σ Λ) (x:=x) (pos:=pos) (v:=.ref a) (p:=.raw (.ref a)) fn hx gl (λh i=>(base.keep (In.keep i)).glob e) (λz=>pi) hd).run s i
 refine ab this (λv s' uu=>eA uu λk r=>⟨k,?_⟩) λz z e=>e
 subst r
 exact uK (NY (off _ i) ho) ⟨o,(b.keep (mN k)).frag _ _ ho,hl⟩ (hr _)
end
def rN (prog:aG) (w:au) (n:Nat) (a:aF) (ps:List PV) (p:PV):Prop:=
 ∀(A:aX) (X:List aF) (I:aW->Prop),pG n A->(∀h,I h->ox w.params h)->sY w.params X->pZ prog w A X I (.ref a) ps p
section
variable {prog:aG} {w:au} {c:Sc} {σ:m7} {Λ:List (aF×List PV)}
structure Gd (w:au) (n:Nat) (c:Sc):Prop where
 base:ox w.params c.g
 off:sY w.params c.X0
 room:pG n c.A
 fn:c.env.scope.kind= .function
 gl:c.env.globals=bn
 bl:c.env.builtins=dh
theorem Gd.offX (G:Gd w n c) (i:In c σ Λ h):sY w.params c.X:=CB (zB G.base i.fresh) G.off
theorem Gd.inBase (G:Gd w n c): ∀h,In c σ Λ h->ox w.params h:=λh i=>G.base.keep i.keep
theorem ul (G:Gd w n c) (e:l8 (KB w.params) bn x=aa (aa v)) (hx:autoParam (c.env.kindOf x=aa .globalImplicit) X1) (hd:autoParam ((x==("__debug__":Str))=false) XX):
  Ev prog w (fs c σ Λ) (.Name x pos) (.raw v):=
 Cm (v:=v) G.fn hx G.gl (λh i=>(G.inBase h i).glob e) (λz=>pi) hd
theorem r6 (G:Gd w n c) (e:l8 (KB w.params) bn x=aa az) (hb:ix x=aa v) (hm:autoParam (v0.elem x=ai) XX) (hx:autoParam (c.env.kindOf x=aa .globalImplicit) X1)
  (hd:autoParam ((x==("__debug__":Str))=false) XX):Ev prog w (fs c σ Λ) (.Name x pos) (.raw v):=
 JK G.fn hx G.gl G.bl (λh i=>(G.inBase h i).bltIs e (kf hm) hb) hd
theorem oP (G:Gd w n c) {id:Str} (hv:l8 (KB w.params) bn id=aa (aa (.ref a)))
  (ho:(KB w.params).lookup a=aa ⟨oc,od,.func fd,sl⟩) (ha:tS prog w (fs c σ Λ) pos (e::es) ps) (hc:rN prog w n a ps p) (hx:autoParam (c.env.kindOf id=aa .globalImplicit) X1) (hd:autoParam ((id==("__debug__":Str))=false) XX)
  (he:autoParam (aE (e::es) c.env=(false,bJ e c.env)::aE es c.env) X1):Ev prog w (fs c σ Λ) (.Call (.Name id np) (e::es) [] pos) p:=.mk λs i=>
 (Cd (ul G hv hx hd) ha (λs i=>rE ((G.inBase _ i).frag _ _ ho) rfl) (hc c.A c.X _ G.room G.inBase (G.offX i)) he).run s i
theorem oq (G:Gd w n c) {id:Str} (hv:l8 (KB w.params) bn id=aa az) (hb:ix id=aa v) (ha:tS prog w (fs c σ Λ) pos (e::es) ps)
  (hc:pZ prog w c.A c.X (In c σ Λ) v ps p) (hk:(∃i,v= .builtin i)\/ ∃t,v= .type t:=by exact .inl ⟨_,rfl⟩) (hm:autoParam (v0.elem id=ai) XX) (hx:autoParam (c.env.kindOf id=aa .globalImplicit) X1) (hd:autoParam ((id==("__debug__":Str))=false) XX)
  (he:autoParam (aE (e::es) c.env=(false,bJ e c.env)::aE es c.env) X1):Ev prog w (fs c σ Λ) (.Call (.Name id np) (e::es) [] pos) p:=
 Cd (r6 G hv hb hm hx hd) ha (λs i=>by rcases hk with ⟨_,rfl⟩|⟨_,rfl⟩<;>first|exact rM|exact um) hc he
theorem qL (ns:List Str) {ps:List PV} (T:qW w.params a fd body)
  (Uv: ∀vs:List ay,vs.length=ps.length->ey fd ⟨vs,[]⟩=bG (ns.zip vs))
  (h: ∀A X g L,oj X g->Gd w n (m5 fd a A X [] g L)->mZ prog w (bf fd L a) (A.deeper (bf fd L a)) (In (m5 fd a A X [] g L) (qr ns ps) []) body (uD g X p)) (F:autoParam (KF fd ns=ai) XX):rN prog w (n+1) a ps p:=by
 have F:=wh F
 intro A X I hr hI hO
 refine G8 ns (λh i=>(hI h i).defAt T) hr.lim (λs vs i r=>xw r Uv) F λg L i lx=> ?_
 exact h A X g L lx ⟨hI g i,hO,hr.deeper _,F.kind,F.gl,F.bl⟩
end
end
section
open PySem.Calls PyProof.Rows PySem.Builtin PySem.Builtin.Str
theorem AL {α β:Type} (f:α->β->Sem (ForInStep β)) (I:List α->β->aq->Prop)
  (h: ∀x r b s,I (x::r) b s->aC M A (f x b) (λst s'=>match st with|.yield b'=>I r b' s'|.done b'=>False) E s):
  ∀(l:List α) (b:β) (s:aq) (Q:β->aq->Prop),I l b s->(∀b' s',I [] b' s'->Q b' s')->aC M A (iC l b f) Q E s
 |[],b,s,Q,i,q=>by rw [ik];exact aj (q b s i)
 |x::r,b,s,Q,i,q=>by
  rw [cF]
  refine ae (ab (h x r b s i) (λst s' k=> ?_) λz z e=>e)
  cases st with
  |yield b'=>exact AL f I h r b' s' Q k q
  |done b'=>exact k.elim
theorem Jg {α:Type} {l:List (Nat×α)} {a:α} (e:l.lookup x=aa a):(x,a)∈l:=by
 induction l with
 |nil=>simp at e
 |cons q l ih=>
  obtain ⟨y,b⟩:=q
  by_cases hy:(x==y)=ai
  ·simp [aD,hy] at e;subst e;rw [beq_iff_eq.mp hy];exact .head _
  ·simp [aD,hy] at e;exact .tail _ (ih e)
section
variable {prog:aG} {w:au} {A:aX} {X:List aF} {I:aW->Prop}
theorem AP {vs:List ay} (hl:s.heap.IsList a vs.toArray) (hv:vs[c]? =aa (.str t u)) (hc:c<256)
  (h:Q (.text t) {s with toks:=s.toks+1}):aC (aI prog w) A (tableLookup (.ref a) c) Q E s:=by
 refine ae (lz (ae (wpAny_mkInt ?_)))
 have Wg:({s with toks:=s.toks+1}:aq).heap.IsList a vs.toArray:=hl
 refine wpAny_getItem_list Wg (by exact mK (.L xJ (.k xA)) [_]) (by exact (mK (.i (.b xA (.c 256)) (.B (.k xA) xS)) [_]) hc) (x:=.str t u) (by simpa using hv) ?_
 exact ae (bD (rfl:asInt? (.str t u)=bG az) (ae (bD (rfl:asStr? (.str t u)=bG (aa t)) (aj h))))
structure Ht (l:List Nat) (f:Nat->List Nat) (s:aq) (rest:List Nat) (UN:List Str) (U0:Nat) (known:List (Nat×Option Nat)) (drop:Bool) (s':aq):Prop where
 keep:bB s s'
 at': ∃done,l=done++rest/\(UN.reverse.foldl (λUD p=>UD++p.cps) #[]).toList=done.flatMap f/\U0=(done.flatMap f).length
 kn: ∀q∈known,∃d,q.2=aa d/\f q.1=[d]
 dr:drop=false
section
variable {l:List Nat} {f:Nat->List Nat} {s s':aq} {rest:List Nat} {UN:List Str} {U0:Nat} {known:List (Nat×Option Nat)} {drop:Bool}
theorem Ht.next (h:Ht l f s (x::rest) UN U0 known drop s') {kn:List (Nat×Option Nat)} (k:bB s Ud) (hk: ∀q∈kn,∃d,q.2=aa d/\f q.1=[d]) (hp:p=S (f x)) (hn:n=p.length):Ht l f s rest (p::UN) (U0+n) kn false Ud:=by
 refine tL h.at' λdone e hd ht=> ?_
 subst hp hn
 refine ⟨k,⟨done++[x],by rw [e,aJ];rfl,?_,by rw [ht,m6,bV,af];simp⟩,hk,rfl⟩
 rw [fi,dc,bV]
 simp only [eY,List.foldl_nil,bh,jy,bK]
 rw [lu,hd]
theorem Fj (r:List Nat):(r.map λc=>(f c).length).sum=(r.flatMap f).length:=by rw [fZ]
theorem Ht.small (hsz:(l.map λc=>(f c).length).sum<=100000) (h:Ht l f s rest UN U0 known drop s'):decide (gy U0=ai)=false:=by
 refine tL h.at' λdone e z Ub=> ?_;obtain rfl:=Ub
 rw [Fj,e,bV,af] at hsz
 have:=aw
 unfold gy
 rw [decide_eq_false_iff_not,decide_eq_true_eq]
 exact (mK (.i (.l (.a xB xC) (.c 100000)) (.i (.e xA xL) (.n (.b xA xB)))) [_,_,_]) hsz this
theorem Jr {α β1 β2 β3 β4 β5:Type} (f:α->β1×β2×β3×β4×β5->Sem (ForInStep (β1×β2×β3×β4×β5))) (I:List α->β1->β2->β3->β4->β5->aq->Prop)
  (h: ∀x r a b c d e s (Q:ForInStep (β1×β2×β3×β4×β5)->aq->Prop),I (x::r) a b c d e s->(∀a b c d e s,I r a b c d e s->Q (.yield (a,b,c,d,e)) s)->aC M A (f x (a,b,c,d,e)) Q E s)
  {l:List α} {a:β1} {b:β2} {c:β3} {d:β4} {e:β5} {Q:β1×β2×β3×β4×β5->aq->Prop} (i:I l a b c d e s) (q: ∀a b c d e s,I [] a b c d e s->Q (a,b,c,d,e) s):aC M A (iC l (a,b,c,d,e) f) Q E s:=
 AL f (λl p s=>I l p.1 p.2.1 p.2.2.1 p.2.2.2.1 p.2.2.2.2 s) (λx r b s i=>h x r b.1 b.2.1 b.2.2.1 b.2.2.2.1 b.2.2.2.2 s _ i λz z z z z z q=>q) l _ s Q i λz s i=>q _ _ _ _ _ s i
end
theorem yF (hl: ∀c∈l,c<256) (hsz:(l.map λc=>(f c).length).sum<=100000) (hpos: ∀c∈l,1<=(f c).length):
  pZ prog w A X I (.builtin "str.translate") [.str (S l),.list ((ag 256).map λk=>.str (S (f k)))] (.str (S (l.flatMap f))):=λs vs z lx r=>by
 refine nu (sW r) λv u Ub r1 r2=> ?_;obtain rfl:=Ub
 refine eE (nG r1) λt Ub=> ?_;obtain rfl:=Ub
 refine nw (pL r2) λa us Ub na li hr=> ?_;obtain rfl:=Ub
 have at': ∀c,c<256-> ∃tk,us[c]? =aa (.str (S (f c)) tk):=λc hc=>by
  refine mX (hr.get (i:=c) (p:=.str (S (f c))) (by simp [hc])) λv e r=> ?_
  refine eE (nG r) λtk Ub=> ?_;obtain rfl:=Ub
  exact ⟨tk,e⟩
 have tl: ∀{x:Nat} {Ua:aq} {Q:Mapped->aq->Prop},x∈l->bB s Ua->(∀Ud,bB s Ud->Q (.text (S (f x))) Ud)->aC (aI prog w) A.in1 (tableLookup (.ref a) x) Q (λe s'=>False) Ua:=λ{x Ua Q} hx Uc q=>
  let ⟨tk,hat⟩:=at' x (hl x hx)
  AP (li.at λo e=>mN Uc _ _ e) hat (hl x hx) (q _ (mO Uc (pt _ _)))
 refine dA F.slot_str_translate (dR _ _ _) F.entry_str_translate ?_ (F.args_str_translate_2 _ _)
 unfold «str.translate»
 refine ae (bD (show strOneArg "translate" ⟨[.str (S l) t,.ref a],[]⟩=bG (.str (S l) t,S l,.ref a) from rfl) ?_)
 by_cases h0:l=[]
 ·subst h0
  refine bT (by rw [m6];rfl) (ae (gK (ae ?_)))
  exact bD (show strUnchanged (.str (S []) t) (S [])=bG (.str (S []) t) from rfl) (aj ⟨_,rfl,mU _,ou⟩)
 refine bZ (by rw [m6];simpa using h0) ?_
 clear r r1 r2 hr na li at'
 refine ae ?_
 rw [List.forIn_toArray]
 refine Jr _ (λrest UN U0 z known drop s'=>Ht l f s rest UN U0 known drop s') ?_ ⟨mU _,⟨[],rfl,rfl,rfl⟩,(λz h=>nomatch h),rfl⟩ λUN U0 fast known drop s' h=> ?_
 ·intro x rest UN U0 fast known drop s' Q h q
  have hx:x∈l:=by
   obtain ⟨done,e,_⟩:=h.at'
   rw [e];exact aM _ dy
  refine bZ (h.small hsz) ?_
  cases h.dr
  cases fast with
  |false=>
   refine bZ rfl ?_
   refine bZ rfl ?_
   refine ae (tl hx h.keep λUd Ue=> ?_)
   exact aj (q _ _ _ _ _ _ (h.next Ue h.kn rfl rfl))
  |true=>
   refine bT rfl ?_
   cases hlk:known.lookup x with
   |some an=>
    refine mX (h.kn _ (Jg hlk)) λd e1 e2=> ?_
    cases e1
    refine ae (aj (aj ?_))
    exact q _ _ _ _ _ _ (h.next h.keep h.kn (by rw [e2]) rfl)
   |none=>
    refine ae (tl hx h.keep λUd Ue=> ?_)
    by_cases hone:((S (f x)).length==1&&(S (f x)).cps.all λx=>decide (x<128))=ai
    ·have Uo:(f x).length=1:=by
      have:=(aP.mp hone).1
      rw [m6] at this;simpa using this
     refine eE (List.length_eq_one_iff.mp Uo) λd hfd=> ?_
     have e0:(if ((S (f x)).length==1&&(S (f x)).cps.all λx=>decide (x<128))=ai then aa (S (f x)).cps[0]? else az)=aa (aa d):=by rw [if_pos hone,hfd];rfl
     dsimp only
     rw [e0]
     refine ae (aj (aj ?_))
     exact q _ _ _ _ _ _ (h.next Ue (λq hq=>by
      rcases ao.mp hq with rfl|hq
      ·exact ⟨d,rfl,hfd⟩
      ·exact h.kn q hq) (by rw [hfd]) rfl)
    ·have e0:(if ((S (f x)).length==1&&(S (f x)).cps.all λx=>decide (x<128))=ai then aa (S (f x)).cps[0]? else az)=az:=if_neg hone
     dsimp only
     rw [e0]
     refine ae (aj (ae (gK ?_)))
     refine bZ rfl ?_
     refine ae (tl hx Ue λUk Um=> ?_)
     exact aj (q _ _ _ _ _ _ (h.next Um h.kn rfl rfl))
 ·refine bZ (h.small hsz) ?_
  refine tL h.at' λdone e hp ht=> ?_
  rw [bK] at e
  subst e
  have e2:(⟨UN.reverse.foldl (λUD p=>UD++p.cps) #[]⟩:Str)=S (l.flatMap f):=by
   rw [<-hp]
  have:=aw
  rw [Fj] at hsz
  refine ae (gh (aj ⟨_,rfl,mO h.keep (pt _ _),by rw [<-e2];exact ou⟩) (by rw [e2,m6];exact (mK (.i (.l xA (.c 100000)) (.i (.e xB xL) (.l xA xB))) [_,_]) hsz this))
end
namespace Lat
theorem entry_eq {c:UInt8} {cs:List UInt8} {t u:Tok}:«bytes.decode» ⟨[.bytes (c::cs).toArray t,.str (PySem.Str.ofString "latin1") u],[]⟩=(mkStr (PySem.Str.ofString "utf-8") >>= λz=>mkStr (PySem.Str.ofString "latin1") >>= λe=>mkStr (PySem.Str.ofString "bytes.decode") >>= λd=>
  ft (.builtin "_codecs.decode.text") [.bytes (c::cs).toArray t,e,.none,d] >>= λv=>ret v):=by kernel_rfl
theorem args_2 (a b:ay):argsOk "bytes.decode" ⟨[a,b],[]⟩:=by
 unfold argsOk;rw [lA (id:="bytes.decode") (n:=['e','d','o','c','e','d']) (o:=['s','e','t','y','b']) (by kernel_rfl) PySem.W.FB.owner_bytes];kernel_rfl
theorem road_eq {id:String} {b:Array UInt8}:_codecs.decodeRoad id b (PySem.Str.ofString "latin1") az []=(_codecs.runDecoder id _codecs.latin1Decoder az ai b 0 [] >>= λr=>mkStr ⟨r.1⟩):=by kernel_rfl
theorem run_eq {id:String} {l:List UInt8} (h:l.length<=5):_codecs.runDecoder id _codecs.latin1Decoder az ai l.toArray 0 []=bG ((l.map (·.toNat)).toArray,l.length):=by
 match l,h with
 |[],_=>kernel_rfl
 |[a],_=>kernel_rfl
 |[a,b],_=>kernel_rfl
 |[a,b,c],_=>kernel_rfl
 |[a,b,c,d],_=>kernel_rfl
 |[a,b,c,d,e],_=>kernel_rfl
 |a::b::c::d::e::f::r,h=>simp at h
end Lat
noncomputable def pD:List Nat:=[48,49,50,51,52,53,54,55,56,57,65,66,67,68,69,70,97,98,99,100,101,102]
noncomputable def oz (c:Nat):Nat:=if c<58 then c - 48 else if c<91 then c - 55 else c - 87
namespace Hex
theorem read {a b:Nat} (ha:a∈pD) (hb:b∈pD):(int_private% "readNumeral") 0 16 [a,b]=(int_private% "Numeral.value") ((16*oz a+oz b:Nat):Int):=by
 have e:pD.map (λa=>pD.map λb=>(int_private% "readNumeral") 0 16 [a,b])=pD.map λa=>pD.map λb=>(int_private% "Numeral.value") ((16*oz a+oz b:Nat):Int):=by kernel_rfl
 exact mH.mp (mH.mp e a ha) b hb
theorem seen {a b:Nat} (ha:a∈pD) (hb:b∈pD):([a,b].takeWhile (· !=0))=[a,b]:=by
 have nz: ∀c∈pD,(c !=0)=ai:=by decide
 simp [List.takeWhile,nz a ha,nz b hb]
theorem wp_text {M:Model} {A:aX} {E:ay->aq->Prop} {s:aq} {Q:ay->aq->Prop} {v:ay} {text:List Nat} {n:Int}
  (hs:(text.takeWhile (· !=0)).length<=640) (hr:(int_private% "readNumeral") 0 16 (text.takeWhile (· !=0))=(int_private% "Numeral.value") n)
  (ha:((text.takeWhile (· !=0)).length==text.length)=ai) (h:Q (.int n s.toks) {s with toks:=s.toks+1}):
  aC M A ((int_private% "intFromText") v text 16) Q E s:=by
 obtain ⟨hp,g,d,tk,os⟩:=s
 repeat (any_goals (first
  |assumption
  |(with_reducible refine bT (decide_eq_true hs) ?_)
  |(with_reducible refine bT (decide_eq_true ha) ?_)
  |wp_step))
 all_goals (try rw [hr])
 all_goals (try dsimp only)
 repeat (any_goals (first
  |assumption
  |(with_reducible refine bT (decide_eq_true hs) ?_)
  |(with_reducible refine bT (decide_eq_true ha) ?_)
  |wp_step))
theorem typeCall_2 (a b:ay):checkTypeCall "int" ⟨[a,b],[]⟩=bG ():=by kernel_rfl
theorem newCall_2 (a b:ay):checkBuiltinCall "int.__new__" ⟨[.type "int",a,b],[]⟩=bG ():=by kernel_rfl
set_option maxHeartbeats 4000000 in
theorem gives {a b:Nat} {u t:Tok} (ha:a∈pD) (hb:b∈pD):PySem.Gives (Builtin.«int.__new__» ⟨[.type "int",.str (S [a,b]) u,.int 16 t],[]⟩) (.int ((16*oz a+oz b:Nat):Int)):=
 .of_wp λM A E s Q h=>by
  obtain ⟨hp,g,d,tk,os⟩:=s
  have f1:=F.conv_sub_int
  have f2:=F.madeHere_int
  have f6:kE (.str (S [a,b]) u)=bG (.type "str"):=rfl
  have low: ∀c∈pD,decide (c<128)=ai:=by decide
  have htx:(if (S [a,b]).cps.all (· <128) then (S [a,b]).cps.toList else Unicode.numberText (S [a,b]).cps.toList)=[a,b]:=by
   rw [if_pos (by simp [of_decide_eq_true (low a ha),of_decide_eq_true (low b hb)])]
  have hs:(([a,b]:List Nat).takeWhile (· !=0)).length<=640:=by rw [seen ha hb];simp
  have hr:(int_private% "readNumeral") 0 16 (([a,b]:List Nat).takeWhile (· !=0))=(int_private% "Numeral.value") ((16*oz a+oz b:Nat):Int):=by rw [seen ha hb];exact read ha hb
  have hl:((([a,b]:List Nat).takeWhile (· !=0)).length==([a,b]:List Nat).length)=ai:=by rw [seen ha hb];rfl
  have hk:=KIN.Hid.mk (And.intro hs (And.intro hr hl))
  clear hs hr hl ha hb
  repeat (any_goals (first
   |assumption
   |((with_reducible show aC _ _ ((int_private% "intFromText") _ _ _) _ _ _);rw [htx];refine wp_text hk.out.1 hk.out.2.1 hk.out.2.2 ?_)
   |wp_step))
  all_goals first|exact ⟨_,rfl,h⟩|skip
end Hex
section
variable {prog:aG} {w:au} {A:aX} {X:List aF} {I:aW->Prop}
theorem IP (h:l.length<=5) (h0:l≠[]):pZ prog w A X I (.builtin "bytes.decode") [.bytes l.toArray,.str (PySem.Str.ofString "latin1")] (.str (S (l.map (·.toNat)))):=λs vs z lx r=>by
 refine nu (sW r) λv u Ub r1 r2=> ?_;obtain rfl:=Ub
 refine eE r1 ?_;clear r1;intro t Ub;obtain rfl:=Ub
 refine eE (nG r2) λtu Ub=> ?_;obtain rfl:=Ub
 cases l with
 |nil=>exact absurd rfl h0
 |cons c cs=>
  refine dA lV (typeIs_bytes _ _ _) FB.entry_bytes_decode ?_ (Lat.args_2 _ _)
  rw [Lat.entry_eq]
  refine ae (gh ?_ (by decide))
  refine ae (gh ?_ (by decide))
  refine ae (gh ?_ (by decide))
  refine ae (call_function_entry KBd.kind_text KBd.plain_text KBd.entry_text (KBd.args_text _ _ _ _) ?_)
  show aC _ _ (Bytes.bytesLike _ (.bytes (c::cs).toArray t) >>= λr=>_) _ _ _
  refine ae (bD KBd.like_eq ?_)
  refine ae (bD KBd.held_eq ?_)
  rw [Lat.road_eq,Lat.run_eq h]
  refine ae (ae (aj ?_))
  refine gh (aj ⟨_,rfl,aj ⟨_,rfl,oH _ _,ou⟩⟩) ?_
  have:=aw
  rw [m6,ah];exact (mK (.i (.l xA xN) (.i (.e xB xL) (.l xA xB))) [_,_]) h this
theorem KC (ha:a∈pD) (hb:b∈pD):pZ prog w A X I (.type "int") [.str (S [a,b]),.int 16] (.int ((16*oz a+oz b:Nat):Int)):=λs vs z lx r=>by
 refine nu (sW r) λv u Ub r1 r2=> ?_;obtain rfl:=Ub
 refine eE (nG r1) λt Ub=> ?_;obtain rfl:=Ub
 refine eE (tz r2) λtu Ub=> ?_;obtain rfl:=Ub
 exact callType_new F.called_int F.newNe_int (Hex.typeCall_2 _ _) (Hex.newCall_2 _ _) (λobj=>F.args_object_init_3 obj _ _) F.entry_int_new (Hex.gives ha hb).meets
  (show (Made.int _).post _ s from ⟨rfl,pt _ _,tU⟩)
theorem uN: ∀{ns:List Int} {vs:List ay},mR X h (ns.map .int) vs->IntsAre vs ns
 |[],vs,r=>by subst r;exact .nil
 |n::ns,vs,r=>by
  refine nu r ?_;clear r;intro v us Ub a b;obtain rfl:=Ub
  obtain ⟨t,rfl⟩:=tz a
  exact .cons _ t (uN b)
theorem Kr (hr: ∀n∈ns,0<=n/\n<256) (hz:ns.length<=1000) (hh:A.handled=az):pZ prog w A X I (.type "bytes") [.list (ns.map .int)] (.bytes (byteArr ns)):=λs vs z lx r=>by
 refine mX (qQ r) λv Ub r1=> ?_;obtain rfl:=Ub
 refine nw (pL r1) λD us Ub z hl h=> ?_;obtain rfl:=Ub
 have:=aw
 exact call_bytes_ints hl (uN h) hr (by rw [h.len,ah];exact (mK (.i (.l xA xQ) (.i (.e xB xL) (.l xA xB))) [_,_]) hz this) hh λh' t k hk=>⟨⟨h',k,rfl,hk⟩,by exact ⟨t,rfl⟩⟩
end
end
section
open PySem.Calls PyProof.Rows PySem.Builtin PySem.Builtin.Re
open Sre (M)
theorem As {m:M} (h:m.outcome.isSome=ai): ∀n,m.runFor n=m
 |0=>rfl
 |n+1=>by unfold M.runFor;rw [if_pos h]
theorem nW (a:Nat): ∀(b:Nat) (m:M),m.runFor (a+b)=(m.runFor a).runFor b:=by
 induction a with
 |zero=>intro b m;rw [kM];rfl
 |succ a ih=>
  intro b m
  rw [show a+1+b=(a+b)+1 by exact mK (.e (.a (.a xA xI) xB) (.a (.a xA xB) xI)) [_,_]]
  show (if m.outcome.isSome=ai then m else M.runFor (a+b) m.step)=(if m.outcome.isSome=ai then m else M.runFor a m.step).runFor b
  by_cases h:m.outcome.isSome=ai
  ·rw [if_pos h,if_pos h,As h]
  ·rw [if_neg h,if_neg h,ih]
theorem w2 {m:M} (h:(m.runFor N).outcome.isSome=ai) {K:Nat} (hk:N<=K):m.runFor K=m.runFor N:=by
 rw [show K=N+(K - N) by exact (mK (.i (.l xB xA) (.e xA (.a xB (.s xA xB)))) [_,_]) hk,nW,As h]
section
variable {prog:aG} {w:au} {A:aX} {E:ay->aq->Prop}
theorem B8: ∀(turns:Nat) (m:M) (N:Nat) (s:aq) (Q:M->aq->Prop),N<=4*turns->0<turns->(m.runFor N).outcome.isSome=ai->Q (m.runFor N) s->aC Mo A (reDrive turns m) Q E s
 |0,_,_,_,_,_,h,_,_=>absurd h (bY _)
 |turns+1,m,N,s,Q,hN,_,ho,q=>by
  unfold reDrive
  by_cases h4:(m.runFor reTurnSteps).outcome.isSome=ai
  ·rw [if_pos h4]
   refine aj ?_
   have:m.runFor reTurnSteps=m.runFor N:=by
    by_cases VA:N<=reTurnSteps
    ·exact w2 ho VA
    ·exact (w2 h4 (by exact (mK (.i (.n (.l xB xA)) (.l xA xB)) [_,_]) VA)).symm
   exact this▸q
  ·rw [if_neg h4]
   have Ux: ¬N<=4:=λVA=>h4 (by exact (show m.runFor reTurnSteps=m.runFor N from w2 ho VA)▸ho)
   have e:(m.runFor reTurnSteps).runFor (N - 4)=m.runFor N:=by
    rw [<-nW]
    congr 1
    exact (mK (.i (.n (.l xA xK)) (.e (.a xK (.s xA xK)) xA)) [_]) Ux
   refine ae (gK ?_)
   exact B8 turns _ (N - 4) s Q (by exact (mK (.i (.l xA (.m 4 (.a xB xI))) (.l (.s xA xK) (.m 4 xB))) [_,_]) hN) (by exact (mK (.i (.l xB (.m 4 (.a xA xI))) (.i (.n (.l xB xK)) (.b xJ xA))) [_,_]) hN Ux) (by exact e▸ho) (by exact e▸q)
theorem Fc (hN:N<=2^66) (h:match (m.runFor N).outcome with|some .matched=>Q (aa (m.runFor N)) s|some .failed=>Q az s|_=>False):aC Mo A (reRunToEnd m) Q E s:=by
 have ho:(m.runFor N).outcome.isSome=ai:=by
  cases e:(m.runFor N).outcome with
  |none=>rw [e] at h;exact h.elim
  |some _=>rfl
 refine ae (B8 (2^64) m N s _ (by omega) (by decide) ho ?_)
 refine ae (AL _ (λz z s'=>s'=s) (λx r b Ua e=> ?_) _ _ s _ rfl λz Ua e=> ?_)
 ·subst e
  split
  ·exact ae (gK (aj rfl))
  ·exact aj rfl
 ·subst e
  cases e:(m.runFor N).outcome with
  |none=>rw [e] at ho;exact oW ho
  |some o=>
   rw [e] at h
   cases o with
   |matched=>exact aj h
   |failed=>exact aj h
   |stuck why=>exact h.elim
end
noncomputable def uA:Array Nat:= #[14,10,4,1,1,22,0,31,16,127,0,13,7,22,0,31,16,127,0,1]
noncomputable def ph:Array Nat:= #[14,14,4,1,1,9,4294966783,0,0,2147483648,0,0,0,0,0,13,11,9,4294966783,0,0,2147483648,0,0,0,0,0,1]
noncomputable def Hq (c:Nat):Bool:=dg c 31||c==127
def vf (c:Nat):Bool:=decide (c<256)&&(ph.getD (6+c/32) 0).testBit (c % 32)
theorem PB (c:Nat) (seen:cv): ∃Up,ec uA c 20 5 ai seen= .ok (Hq c,Up):=by
 have e:ec uA c 20 5 ai seen=if (decide (0<=c)&&decide (c<=31))=ai then .ok (ai,seen.add 22) else if (c==127)=ai then .ok (ai,(seen.add 22).add 16) else .ok (false,((seen.add 22).add 16).add 0):=rfl
 rw [e]
 unfold Hq
 by_cases h1:c<=31
 ·exact ⟨seen.add 22,by simp [h1,ml.mpr h1]⟩
 ·have:dg c 31=false:=by rw [Bool.eq_false_iff];exact λq=>h1 (ml.mp q)
  by_cases h2:c=127
  ·exact ⟨(seen.add 22).add 16,by simp [h2]⟩
  ·exact ⟨((seen.add 22).add 16).add 0,by simp [h1,h2,this]⟩
theorem HB (c:Nat) (seen:cv): ∃Up,ec ph c 28 5 ai seen= .ok (vf c,Up):=by
 have e:ec ph c 28 5 ai seen=if (decide (c<256)&&(ph.getD (5+(1+c/32)) 0).testBit (c % 32))=ai then .ok (ai,seen.add 9) else .ok (false,(seen.add 9).add 0):=rfl
 rw [e]
 unfold vf
 rw [show 5+(1+c/32)=6+c/32 by exact mK (.e (.a xN (.a xI (.d xA 32))) (.a (.c 6) (.d xA 32))) [_]]
 cases (decide (c<256)&&(ph.getD (6+c/32) 0).testBit (c % 32))<;>exact ⟨_,rfl⟩
theorem yH {cl:Nat->Bool} (rj: ∀c seen,∃Up,ec m.code c m.code.size 5 ai seen= .ok (cl c,Up)):
  ∀(fuel s:Nat) (seen:cv),(∀i,s<=i->i<m.lim->cl (m.text.getD i 0)=false)-> ∃Up,M.admitted m fuel s seen= .ok (az,Up)
 |0,s,seen,_=>⟨seen,rfl⟩
 |fuel+1,s,seen,h=>by
  unfold M.admitted
  by_cases hs:s>=m.lim
  ·exact ⟨seen,by rw [if_pos hs]⟩
  ·rw [if_neg hs]
   refine eE (rj (m.text.getD s 0) seen) λUp e=> ?_
   rw [e,h s (aN _) (by exact (mK (.i (.n (.l xB xA)) (.b xA xB)) [_,_]) hs)]
   exact yH rj fuel (s+1) Up λi hi=>h i (by exact (mK (.i (.l (.a xA xI) xB) (.l xA xB)) [_,_]) hi)
theorem yJ {cl:Nat->Bool} (rj: ∀c seen,∃Up,ec m.code c m.code.size 5 ai seen= .ok (cl c,Up)) (hk:k<m.lim) (hc:cl (m.text.getD k 0)=ai):
  ∀(fuel s:Nat) (seen:cv),s<=k->k - s<fuel->(∀i,s<=i->i<k->cl (m.text.getD i 0)=false)-> ∃Up,M.admitted m fuel s seen= .ok (aa k,Up)
 |0,s,seen,_,hf,_=>by exact ((mK (.n (.b (.s xA xB) xJ)) [_,_]) hf).elim
 |fuel+1,s,seen,hs,hf,h=>by
  unfold M.admitted
  rw [if_neg (by exact (mK (.i (.b xC xA) (.i (.l xB xC) (.n (.l xA xB)))) [_,_,_]) hk hs)]
  refine eE (rj (m.text.getD s 0) seen) λUp e=> ?_
  rw [e]
  by_cases hsk:s=k
  ·subst hsk;rw [hc];exact ⟨_,rfl⟩
  ·rw [h s (aN _) (by exact (mK (.i (.l xA xB) (.i (.n (.e xA xB)) (.b xA xB))) [_,_]) hs hsk)]
   exact yJ rj hk hc fuel (s+1) Up (by exact (mK (.i (.l xA xB) (.i (.n (.e xA xB)) (.l (.a xA xI) xB))) [_,_]) hs hsk) (by exact (mK (.i (.l xB xA) (.i (.b (.s xA xB) (.a xC xI)) (.i (.n (.e xB xA)) (.b (.s xA (.a xB xI)) xC)))) [_,_,_]) hs hf hsk) λi hi=>h i (by exact (mK (.i (.l (.a xA xI) xB) (.l xA xB)) [_,_]) hi)
noncomputable def m0 (code T:Array Nat) (pc p lim:Nat):M:={code,text:=T,lim,start:=p,pc,pos:=p,handed:=p,marks:= #[],seen:=({}:cv).add 14}
theorem Mm (T:Array Nat) (p lim:Nat):bk uA T 0 p lim false=if (decide (p>lim)||decide (lim - p<1))=ai then (m0 uA T 11 p lim).say false else M.attemptFrom {m0 uA T 11 p lim with lastStart:=lim} p ai:=rfl
theorem Fe (T:Array Nat) (p lim:Nat):bk ph T 0 p lim false=if (decide (p>lim)||decide (lim - p<1))=ai then (m0 ph T 15 p lim).say false else M.attemptFrom {m0 ph T 15 p lim with lastStart:=lim} p ai:=rfl
theorem uB {m:M} (ho:m.outcome=az) (hf:m.frames=[]):((m.say false).runFor 1).outcome=aa .failed:=by
 obtain ⟨code,text,lim,start,ls,wt,ma,pc,pos,handed,om,marks,lm,li,loops,inner,frames,weight,answer,seen,outcome⟩:=m
 dsimp only at ho hf
 subst ho hf
 rfl
theorem vV {m:M} {cl:Nat->Bool} (rj: ∀c seen,∃Up,ec m.code c m.code.size 5 ai seen= .ok (cl c,Up)) (hf:m.hasFirstSet=ai) (ho:m.outcome=az) (hfr:m.frames=[]) (p:Nat) (b:Bool)
  (h: ∀i,p<=i->i<m.lim->cl (m.text.getD i 0)=false):((m.attemptFrom p b).runFor 1).outcome=aa .failed:=by
 unfold M.attemptFrom
 rw [hf]
 refine eE (yH rj (m.lim+1 - p) p m.seen h) λUp e=> ?_
 simp only [iN,a9,if_false,e]
 exact uB (m:={m with seen:=Up}) ho hfr
theorem FD (h: ∀i,i<T.size->Hq (T.getD i 0)=false):((bk uA T 0 0 T.size false).runFor 1).outcome=aa .failed:=by
 rw [Mm]
 split
 ·exact uB rfl rfl
 ·exact vV (m:={m0 uA T 11 0 T.size with lastStart:=T.size}) PB rfl rfl rfl 0 ai λi z hi=>h i hi
theorem Eo (h: ∀i,i<T.size->vf (T.getD i 0)=false):((bk ph T 0 0 T.size false).runFor 1).outcome=aa .failed:=by
 rw [Fe]
 split
 ·exact uB rfl rfl
 ·exact vV (m:={m0 ph T 15 0 T.size with lastStart:=T.size}) HB rfl rfl rfl 0 ai λi z hi=>h i hi
structure Q where
 code:Array Nat
 text:Array Nat
 lim:Nat
 start:Nat
 ls:Nat
noncomputable def Q.R (q:Q) (pc pos handed:Nat) (om:Bool) (frames:List iE) (weight:Nat) (answer:Option Bool) (seen:cv):M:=
 {code:=q.code,text:=q.text,lim:=q.lim,start:=q.start,lastStart:=q.ls,pc,pos,handed,outermost:=om,marks:= #[],frames,weight,answer,seen}
noncomputable def Q.F (q:Q) (wait:Sre.Wait) (pc pos:Nat) (om:Bool):iE:={wait,pc,pos,outermost:=om}
section
variable {q:Q} {pc pos handed:Nat} {om:Bool} {frames:List iE} {weight:Nat} {seen:cv}
noncomputable def Al (T:Array Nat) (pos lim x:Nat) (a b:M):M:=if pos>=lim then b else cond (T.getD pos 0==x) a b
theorem vR (h:pos<lim) (e:T.getD pos 0=x):Al T pos lim x a b=a:=by
 unfold Al;rw [if_neg (mj.mpr h),e,beq_self_eq_true];rfl
theorem zs (h:pos<lim->T.getD pos 0≠x):Al T pos lim x a b=b:=by
 unfold Al
 by_cases q:pos>=lim
 ·rw [if_pos q]
 ·rw [if_neg q,beq_false_of_ne (h (mj.mp q))];rfl
theorem srch (h:p<lim): ¬((decide (p>lim)||decide (lim - p<1))=ai):=by
 simp only [Bool.or_eq_true,decide_eq_true_eq];exact (mK (.i (.b xB xA) (.n (.o (.b xA xB) (.b (.s xA xB) xI)))) [_,_]) h
theorem Kx {b:Bool} {w:Nat}:(q.R pc pos handed om [] w (aa b) seen).step.outcome=aa (if b then .matched else .failed)/\(q.R pc pos handed om [] w (aa b) seen).step.handed=handed/\(q.R pc pos handed om [] w (aa b) seen).step.start=q.start/\
  (q.R pc pos handed om [] w (aa b) seen).step.marks= #[]/\(q.R pc pos handed om [] w (aa b) seen).step.lastmark= -1/\(q.R pc pos handed om [] w (aa b) seen).step.lastindex= -1:=by
 cases b<;>exact ⟨rfl,rfl,rfl,rfl,rfl,rfl⟩
theorem AB {m m':M} (h:m.step=m') (ho:m.outcome=az):m.runFor (n+1)=m'.runFor n:=by
 show (if m.outcome.isSome=ai then m else M.runFor n m.step)=_
 rw [ho,h];rfl
end
def uy (m:M) (b e:Nat):Prop:= ∃N,N<=10000/\(m.runFor N).outcome=aa .matched/\(m.runFor N).start=b/\(m.runFor N).handed=e/\(m.runFor N).marks= #[]/\(m.runFor N).lastmark= -1/\(m.runFor N).lastindex= -1
noncomputable def r4:Array Nat:= #[14,9,4,1,2,16,10,16,13,0,7,7,16,13,16,10,15,18,5,16,10,15,13,11,16,13,5,5,0,16,10,1,15,2,0,1]
noncomputable def wM (c:Nat):Bool:=c==10||c==13
theorem G5 (c:Nat) (seen:cv): ∃Up,ec r4 c 36 5 ai seen= .ok (wM c,Up):=by
 have e:ec r4 c 36 5 ai seen=if (c==10)=ai then .ok (ai,seen.add 16) else if (c==13)=ai then .ok (ai,(seen.add 16).add 16) else .ok (false,((seen.add 16).add 16).add 0):=rfl
 rw [e]
 unfold wM
 cases h1:c==10
 ·cases h2:c==13
  ·exact ⟨_,rfl⟩
  ·exact ⟨_,rfl⟩
 ·exact ⟨_,rfl⟩
theorem EF (T:Array Nat) (p lim:Nat):bk r4 T 0 p lim false=if (decide (p>lim)||decide (lim - p<1))=ai then (m0 r4 T 10 p lim).say false else M.attemptFrom {m0 r4 T 10 p lim with lastStart:=lim} p ai:=rfl
theorem zw {q:Q} {pc pos handed:Nat} {om:Bool} {w:Nat} {seen:cv} {m:M} {N:Nat} (hN:N<=9000) (h:m.runFor N=q.R pc pos handed om [] w (aa ai) seen):uy m q.start handed:=by
 have e:m.runFor (N+1)=(q.R pc pos handed om [] w (aa ai) seen).step:=by
  rw [nW,h];rfl
 have z:= @Kx q pc pos handed om seen ai w
 refine ⟨N+1,by exact (mK (.i (.l xA (.c 9000)) (.l (.a xA xI) (.c 10000))) [_]) hN,?_⟩
 rw [e]
 exact ⟨z.1,z.2.2.1,z.2.1,z.2.2.2.1,z.2.2.2.2.1,z.2.2.2.2.2⟩
theorem CN (hf:m.hasFirstSet=ai) (e:M.admitted m (m.lim+1 - p) p m.seen= .ok (aa k,Up)):
  m.attemptFrom p b=M.attemptAt {m with mustAdvance:=false,seen:=Up} k b:=by
 unfold M.attemptFrom
 rw [hf]
 simp only [iN,a9,if_false]
 rw [e]
section
variable {T:Array Nat} {p k lim:Nat}
theorem BY {code:Array Nat} {cl:Nat->Bool} (rj: ∀c seen,∃Up,ec code c code.size 5 ai seen= .ok (cl c,Up)) (hf:(m0 code T pc p lim).hasFirstSet=ai) (hp:p<=k) (hk:k<lim)
  (UW: ∀i,p<=i->i<k->cl (T.getD i 0)=false) (hc:cl (T.getD k 0)=ai):
  ∃seen,M.attemptFrom {m0 code T pc p lim with lastStart:=lim} p ai=(⟨code,T,lim,k,lim⟩:Q).R pc k k ai [(⟨code,T,lim,k,lim⟩:Q).F .nextStart pc k ai] 1 az seen:=by
 generalize hm:({m0 code T pc p lim with lastStart:=lim}:M)=m
 have h1:m.hasFirstSet=ai:=by exact hm▸hf
 have h2:m.code=code:=by rw [<-hm];rfl
 have h3:m.text=T:=by rw [<-hm];rfl
 have h4:m.lim=lim:=by rw [<-hm];rfl
 refine eE (yJ (m:=m) (by exact h2▸rj) (k:=k) (by exact h4▸hk) (by exact h3▸hc) (m.lim+1 - p) p m.seen hp (by exact h4▸((mK (.i (.l xB xA) (.i (.b xA xC) (.b (.s xA xB) (.s (.a xC xI) xB)))) [_,_,_]) hp hk)) (by exact h3▸UW)) λUp e=> ?_
 refine ⟨Up,?_⟩
 rw [CN h1 e,<-hm]
 rfl
def qC (T:Array Nat) (lim s:Nat):Q:=⟨r4,T,lim,s,lim⟩
def fC (T:Array Nat) (lim k:Nat):List iE:=[(qC T lim k).F .nextStart 10 k ai]
def bC (T:Array Nat) (lim k a:Nat):List iE:={(qC T lim k).F .nextBranch a k ai with kept:={}}::fC T lim k
variable {seen:cv}
theorem Mh:((qC T lim k).R 10 k k ai (fC T lim k) 1 az seen).runFor 2=
  Al T k lim 13 ((qC T lim k).R 14 (k+1) k ai (bC T lim k 11) 2 az ((seen.add 7).add 16)) ((qC T lim k).R 12 k k ai (bC T lim k 11) 2 (aa false) ((seen.add 7).add 16)):=by kernel_rfl
theorem PL:((qC T lim k).R 14 (k+1) k ai (bC T lim k 11) 2 az seen).runFor 1=
  Al T (k+1) lim 10 ((qC T lim k).R 16 (k+2) k ai (bC T lim k 11) 2 az (seen.add 16)) ((qC T lim k).R 14 (k+1) k ai (bC T lim k 11) 2 (aa false) (seen.add 16)):=by kernel_rfl
theorem Tq:((qC T lim k).R 16 (k+2) k ai (bC T lim k 11) 2 az seen).runFor 4=(qC T lim k).R 10 k (k+2) ai [] 0 (aa ai) ((seen.add 15).add 1):=by kernel_rfl
theorem QK:((qC T lim k).R pc p' h' ai (bC T lim k 11) 2 (aa false) seen).runFor 2=
  Al T k lim 10 ((qC T lim k).R 21 (k+1) k ai (bC T lim k 18) 2 az (seen.add 16)) ((qC T lim k).R 19 k k ai (bC T lim k 18) 2 (aa false) (seen.add 16)):=by kernel_rfl
theorem SU:((qC T lim k).R 21 (k+1) k ai (bC T lim k 18) 2 az seen).runFor 4=(qC T lim k).R 10 k (k+1) ai [] 0 (aa ai) ((seen.add 15).add 1):=by kernel_rfl
theorem Tu:((qC T lim k).R 19 k k ai (bC T lim k 18) 2 (aa false) seen).runFor 2=
  Al T k lim 13 ((qC T lim k).R 26 (k+1) k ai (bC T lim k 23) 2 az (seen.add 16)) ((qC T lim k).R 24 k k ai (bC T lim k 23) 2 (aa false) (seen.add 16)):=by kernel_rfl
def lC (T:Array Nat) (lim k:Nat):List iE:={(qC T lim k).F .lookNot 26 (k+1) ai with kept:={}}::bC T lim k 23
theorem Tk:((qC T lim k).R 26 (k+1) k ai (bC T lim k 23) 2 az seen).runFor 2=
  Al T (k+1) lim 10 ((qC T lim k).R 31 (k+2) (k+1) false (lC T lim k) 3 az ((seen.add 5).add 16)) ((qC T lim k).R 29 (k+1) (k+1) false (lC T lim k) 3 (aa false) ((seen.add 5).add 16)):=by kernel_rfl
theorem S8:((qC T lim k).R 29 (k+1) (k+1) false (lC T lim k) 3 (aa false) seen).runFor 5=(qC T lim k).R 10 k (k+1) ai [] 0 (aa ai) ((seen.add 15).add 1):=by kernel_rfl
theorem CC (hp:p<=k) (hk:k<lim) (UW: ∀i,p<=i->i<k->wM (T.getD i 0)=false) (hc:wM (T.getD k 0)=ai) (hN:N<=9000) (h: ∀s0,∃s1,((qC T lim k).R 10 k k ai (fC T lim k) 1 az s0).runFor N=(qC T lim k).R 10 k e ai [] 0 (aa ai) s1):uy (bk r4 T 0 p lim false) k e:=by
 rw [EF,if_neg (srch (cY hp hk))]
 refine eE (BY (T:=T) (p:=p) (k:=k) (lim:=lim) (code:=r4) (pc:=10) G5 rfl hp hk UW hc) λs0 q=> ?_
 refine eE (h s0) λs1 r=> ?_
 rw [q]
 exact zw (q:=qC T lim k) hN r
theorem Ef (hp:p<=k) (hk:k+1<lim) (UW: ∀i,p<=i->i<k->wM (T.getD i 0)=false) (h0:T.getD k 0=13) (h1:T.getD (k+1) 0=10):uy (bk r4 T 0 p lim false) k (k+2):=
 CC hp (gI hk) UW (by rw [h0];rfl) (N:=2+1+4) (by decide) λs0=>⟨_,by
  rw [nW,nW,Mh,vR (gI hk) h0,PL,vR hk h1,Tq]⟩
theorem Ib (hp:p<=k) (hk:k<lim) (UW: ∀i,p<=i->i<k->wM (T.getD i 0)=false) (h0:T.getD k 0=10):uy (bk r4 T 0 p lim false) k (k+1):=
 CC hp hk UW (by rw [h0];rfl) (N:=2+2+4) (by decide) λs0=>⟨_,by
  rw [nW,nW,Mh,zs (λz=>by rw [h0];decide),QK,vR hk h0,SU]⟩
theorem Iv (hp:p<=k) (hk:k<lim) (UW: ∀i,p<=i->i<k->wM (T.getD i 0)=false) (h0:T.getD k 0=13) (h1:k+1<lim->T.getD (k+1) 0≠10):uy (bk r4 T 0 p lim false) k (k+1):=
 CC hp hk UW (by rw [h0];rfl) (N:=2+1+2+2+2+5) (by decide) λs0=>⟨_,by
  rw [nW,nW,nW,nW,nW,Mh,vR hk h0,PL,zs h1,QK,zs (λz=>by rw [h0];decide),Tu,vR hk h0,Tk,zs h1,S8]⟩
end
noncomputable def wP:Array Nat:= #[14,4,0,1,1,6,1,16,46,1]
section
variable {T:Array Nat} {lim:Nat}
def qd (T:Array Nat) (lim s:Nat):Q:=⟨wP,T,lim,s,lim⟩
def Dh (T:Array Nat) (lim s:Nat) (om:Bool) (seen:cv):M:=(qd T lim s).R 5 s s om [(qd T lim s).F .nextStart 5 s om] 1 az seen
theorem EV (T:Array Nat) (p lim:Nat):bk wP T 0 p lim false=if (decide (p>lim)||decide (lim - p<1))=ai then (m0 wP T 5 p lim).say false else Dh T lim p ai (({}:cv).add 14):=rfl
theorem Fz {seen:cv}:((qd T lim s).R pc' p' hd WJ [(qd T lim s).F .nextStart 5 s om] 1 (aa false) seen).step=
  if s<lim then Dh T lim (s+1) false seen else (qd T lim s).R 5 s hd om [] 0 (aa false) seen:=rfl
noncomputable def wN (T:Array Nat) (s:Nat):Bool:=s==0||T.getD (s - 1) 0==10
def rD (T:Array Nat) (lim s pc pos hd:Nat) (om:Bool) (a:Option Bool) (seen:cv):M:=(qd T lim s).R pc pos hd om [(qd T lim s).F .nextStart 5 s om] 1 a seen
theorem QG {seen:cv}:(Dh T lim s om seen).runFor 1=cond (wN T s) (rD T lim s 7 s s om az ((seen.add 6).add 44)) (rD T lim s 5 s s om (aa false) ((seen.add 6).add 44)):=by
 have h:(Dh T lim s om seen).runFor 1=if wN T s=ai then rD T lim s 7 s s om az ((seen.add 6).add 44) else rD T lim s 5 s s om (aa false) ((seen.add 6).add 44):=by kernel_rfl
 rw [h]
 cases wN T s<;>rfl
theorem Sr {seen:cv}:(rD T lim s 7 s s om az seen).runFor 1=Al T s lim 46 (rD T lim s 9 (s+1) s om az (seen.add 16)) (rD T lim s 7 s s om (aa false) (seen.add 16)):=by kernel_rfl
theorem TE {seen:cv}:(rD T lim s 9 (s+1) s om az seen).runFor 2=(qd T lim s).R 5 s (s+1) om [] 0 (aa ai) (seen.add 1):=by cases om<;>kernel_rfl
theorem RV {seen:cv} (hs:s<lim) (ha:wN T s=ai) (hc:T.getD s 0=46): ∃Up,(Dh T lim s om seen).runFor 4=(qd T lim s).R 5 s (s+1) om [] 0 (aa ai) Up:=
 ⟨_,by rw [show 4=1+1+2 from rfl,nW,nW,QG,ha,cond_true,Sr,vR hs hc,TE]⟩
theorem E3 {seen:cv} (h:s<lim->wN T s=ai->T.getD s 0≠46): ∃n Up pc' p' hd WJ,n<=2/\(Dh T lim s om seen).runFor n=(qd T lim s).R pc' p' hd WJ [(qd T lim s).F .nextStart 5 s om] 1 (aa false) Up:=by
 cases ha:wN T s with
 |false=>exact ⟨1,_,_,_,_,_,by decide,by rw [QG,ha];rfl⟩
 |true=>exact ⟨1+1,_,_,_,_,_,by decide,by rw [nW,QG,ha,cond_true,Sr,zs λz=>h z ha];rfl⟩
theorem Fg: ∀(n s k:Nat) (om:Bool) (seen:cv),k=s+n->k<lim->(∀i,s<=i->i<k->wN T i=ai->T.getD i 0≠46)->wN T k=ai->T.getD k 0=46->
  ∃N Up pc pos WJ,N<=3*n+4/\(Dh T lim s om seen).runFor N=(qd T lim k).R pc pos (k+1) WJ [] 0 (aa ai) Up
 |0,s,k,om,seen,e,hk,_,ha,hc=>by
  rw [Nat.add_zero] at e;subst e
  refine eE (RV (om:=om) (seen:=seen) hk ha hc) λUp r=> ?_
  exact ⟨4,Up,_,_,_,by exact mK (.l xK (.a (.m 3 xJ) xK)) [] [],r⟩
 |n+1,s,k,om,seen,e,hk,UW,ha,hc=>by
  refine AZ (E3 (T:=T) (lim:=lim) (s:=s) (om:=om) (seen:=seen) (λz=>UW s (aN _) (by exact (mK (.i (.e xB (.a xA (.a xC xI))) (.b xA xB)) [_,_,_]) e))) λm s1 pc' p' hd WJ hm r=> ?_
  refine Hw (Fg n (s+1) k false s1 (by exact (mK (.i (.e xA (.a xB (.a xC xI))) (.e xA (.a (.a xB xI) xC))) [_,_,_]) e) hk (λi hi=>UW i (by exact (mK (.i (.l (.a xA xI) xB) (.l xA xB)) [_,_]) hi)) ha hc) λN s2 a b d hN r2=> ?_
  refine ⟨m+(1+N),s2,a,b,d,by exact (mK (.i (.l xA xM) (.i (.l xB (.a (.m 3 xC) xK)) (.l (.a xA (.a xI xB)) (.a (.m 3 (.a xC xI)) xK)))) [_,_,_]) hm hN,?_⟩
  rw [nW,r,nW]
  rw [AB (Fz (T:=T) (lim:=lim) (s:=s)) rfl,if_pos (by exact (mK (.i (.e xC (.a xA (.a xD xI))) (.i (.b xC xB) (.b xA xB))) [_,_,_,_]) e hk)]
  exact r2
theorem HC: ∀(n s:Nat) (om:Bool) (seen:cv),lim=s+n->(∀i,s<=i->i<lim->wN T i=ai->T.getD i 0≠46)->
  ∃N Up pc pos hd WJ s',N<=3*n+4/\(Dh T lim s om seen).runFor N=(qd T lim s').R pc pos hd WJ [] 0 (aa false) Up
 |0,s,om,seen,e,UW=>by
  refine AZ (E3 (T:=T) (lim:=lim) (s:=s) (om:=om) (seen:=seen) (λz=>absurd z (by exact (mK (.i (.e xB (.a xA xJ)) (.n (.b xA xB))) [_,_]) e))) λm s1 pc' p' hd WJ hm r=> ?_
  refine ⟨m+1,s1,5,s,hd,om,s,by exact (mK (.i (.l xA xM) (.l (.a xA xI) (.a (.m 3 xJ) xK))) [_]) hm,?_⟩
  rw [nW,r,AB (Fz (T:=T) (lim:=lim) (s:=s)) rfl,if_neg (by exact (mK (.i (.e xB (.a xA xJ)) (.n (.b xA xB))) [_,_]) e)];rfl
 |n+1,s,om,seen,e,UW=>by
  refine AZ (E3 (T:=T) (lim:=lim) (s:=s) (om:=om) (seen:=seen) (λz=>UW s (aN _) z)) λm s1 pc' p' hd WJ hm r=> ?_
  refine DD (HC n (s+1) false s1 (by exact (mK (.i (.e xA (.a xB (.a xC xI))) (.e xA (.a (.a xB xI) xC))) [_,_,_]) e) λi hi=>UW i (by exact (mK (.i (.l (.a xA xI) xB) (.l xA xB)) [_,_]) hi)) λN s2 a b c d s' hN r2=> ?_
  refine ⟨m+(1+N),s2,a,b,c,d,s',by exact (mK (.i (.l xA xM) (.i (.l xB (.a (.m 3 xC) xK)) (.l (.a xA (.a xI xB)) (.a (.m 3 (.a xC xI)) xK)))) [_,_,_]) hm hN,?_⟩
  rw [nW,r,nW]
  rw [AB (Fz (T:=T) (lim:=lim) (s:=s)) rfl,if_pos (by exact (mK (.i (.e xB (.a xA (.a xC xI))) (.b xA xB)) [_,_,_]) e)]
  exact r2
theorem Oa (hz:lim<=1000) (hp:p<=k) (hk:k<lim) (UW: ∀i,p<=i->i<k->wN T i=ai->T.getD i 0≠46) (ha:wN T k=ai) (hc:T.getD k 0=46):uy (bk wP T 0 p lim false) k (k+1):=by
 rw [EV,if_neg (srch (cY hp hk))]
 refine Hw (Fg (T:=T) (lim:=lim) (k - p) p k ai (({}:cv).add 14) (by exact (mK (.i (.l xB xA) (.e xA (.a xB (.s xA xB)))) [_,_]) hp) hk UW ha hc) λN s' a b d hN r=> ?_
 exact zw (by exact (mK (.i (.l xB xQ) (.i (.b xC xB) (.i (.l xA (.a (.m 3 (.s xC xD)) xK)) (.l xA (.c 9000))))) [_,_,_,_]) hz hk hN) r
def yo (m:M):Prop:= ∃N,N<=10000/\(m.runFor N).outcome=aa .failed
theorem Bz (hz:lim<=1000) (UW: ∀i,p<=i->i<lim->wN T i=ai->T.getD i 0≠46):yo (bk wP T 0 p lim false):=by
 rw [EV]
 split
 ·exact ⟨1,by decide,uB rfl rfl⟩
 ·rename_i h
  have h: ¬(p>lim)/\ ¬(lim - p<1):=by simpa using h
  refine DD (HC (T:=T) (lim:=lim) (lim - p) p ai (({}:cv).add 14) (by exact (mK (.i (.n (.b (.s xA xB) xI)) (.e xA (.a xB (.s xA xB)))) [_,_]) h.2) UW) λN s' a b c d VC hN r=> ?_
  refine ⟨N+1,by exact (mK (.i (.l xB xQ) (.i (.l xA (.a (.m 3 (.s xB xC)) xK)) (.l (.a xA xI) (.c 10000)))) [_,_,_]) hz hN,?_⟩
  rw [nW,r]
  exact (@Kx _ _ _ _ _ _ false _).1
theorem JC (UW: ∀i,p<=i->i<lim->wM (T.getD i 0)=false):yo (bk r4 T 0 p lim false):=by
 rw [EF]
 split
 ·exact ⟨1,by decide,uB rfl rfl⟩
 ·exact ⟨1,by decide,vV (m:={m0 r4 T 10 p lim with lastStart:=lim}) G5 rfl rfl rfl p ai UW⟩
theorem Qb (h: ∀i,i<T.size->Hq (T.getD i 0)=false):yo (bk uA T 0 0 T.size false):=⟨1,by decide,FD h⟩
theorem QL (h: ∀i,i<T.size->vf (T.getD i 0)=false):yo (bk ph T 0 0 T.size false):=⟨1,by decide,Eo h⟩
def rV (T:Array Nat) (s pc pos hd:Nat) (a:Option Bool) (seen:cv):M:=(⟨ph,T,T.size,s,T.size⟩:Q).R pc pos hd ai [(⟨ph,T,T.size,s,T.size⟩:Q).F .nextStart 15 s ai] 1 a seen
theorem SR {seen:cv}:(rV T k 15 k k az seen).runFor 1=if k>=T.size then rV T k 15 k k (aa false) (seen.add 13) else
  cond (decide (T.getD k 0<256)&&(ph.getD (17+(1+T.getD k 0/32)) 0).testBit (T.getD k 0 % 32)) (rV T k 27 (k+1) k az ((seen.add 13).add 9)) (rV T k 15 k k (aa false) (((seen.add 13).add 9).add 0)):=by
 have e:ec ph (T.getD k 0) 28 17 ai (seen.add 13)=if (decide (T.getD k 0<256)&&(ph.getD (17+(1+T.getD k 0/32)) 0).testBit (T.getD k 0 % 32))=ai then .ok (ai,(seen.add 13).add 9) else .ok (false,((seen.add 13).add 9).add 0):=rfl
 have h:(rV T k 15 k k az seen).runFor 1=if k>=T.size then rV T k 15 k k (aa false) (seen.add 13) else match ec ph (T.getD k 0) 28 17 ai (seen.add 13) with
  |.error why=>M.stick (rV T k 15 k k az (seen.add 13)) why
  |.ok (false,s)=>rV T k 15 k k (aa false) s
  |.ok (ai,s)=>rV T k 27 (k+1) k az s:=by kernel_rfl
 rw [h,e]
 cases (decide (T.getD k 0<256)&&(ph.getD (17+(1+T.getD k 0/32)) 0).testBit (T.getD k 0 % 32))<;>rfl
theorem To {seen:cv}:(rV T k 27 (k+1) k az seen).runFor 2=(⟨ph,T,T.size,k,T.size⟩:Q).R 15 k (k+1) ai [] 0 (aa ai) (seen.add 1):=by kernel_rfl
theorem RB (hc:vf c=ai):(decide (c<256)&&(ph.getD (17+(1+c/32)) 0).testBit (c % 32))=ai:=by
 have same: ∀k,k<8->ph.getD (17+(1+k)) 0=ph.getD (6+k) 0:=by decide
 unfold vf at hc
 have h2:c<256:=of_decide_eq_true (aP.mp hc).1
 rw [same _ (by exact (mK (.i (.b xA (.c 256)) (.b (.d xA 32) (.c 8))) [_]) h2)]
 exact hc
theorem Pn (hk:k<T.size) (UW: ∀i,i<k->vf (T.getD i 0)=false) (hc:vf (T.getD k 0)=ai):uy (bk ph T 0 0 T.size false) k (k+1):=by
 rw [Fe,if_neg (srch (cY (cx _) hk))]
 refine eE (BY (T:=T) (p:=0) (k:=k) (lim:=T.size) (code:=ph) (pc:=15) HB rfl (cx _) hk (λi z=>UW i) hc) λs0 e=> ?_
 rw [e]
 exact zw (N:=1+2) (by decide) (show (rV T k 15 k k az s0).runFor (1+2)=_ by rw [nW,SR,if_neg (mj.mpr hk),RB hc,cond_true,To])
end
namespace Pat
theorem plainAttrs:jE "re.Pattern":=
 ⟨⟨"object.__getattribute__",by rw [cz,bA];kernel_rfl,by decide+kernel⟩,by rw [cz,bA];kernel_rfl⟩
theorem slot_search:Slot "re.Pattern" "search" "re.Pattern.search":=
 .of (owner:="re.Pattern") (n:="search") (by rw [cz,bA];kernel_rfl) (by decide+kernel) (by decide+kernel) (by decide+kernel)
  (by first|exact .inl (by decide+kernel)|exact .inr (by decide+kernel)) (by rw [dZ];kernel_rfl)
theorem slot_sub:Slot "re.Pattern" "sub" "re.Pattern.sub":=
 .of (owner:="re.Pattern") (n:="sub") (by rw [cz,bA];kernel_rfl) (by decide+kernel) (by decide+kernel) (by decide+kernel)
  (by first|exact .inl (by decide+kernel)|exact .inr (by decide+kernel)) (by rw [dZ];kernel_rfl)
theorem type_search:kE (.builtin "re.Pattern.search")=bG (.type "method_descriptor"):=by show builtinType _=_;rw [builtinType_eq_fast];kernel_rfl
theorem type_sub:kE (.builtin "re.Pattern.sub")=bG (.type "method_descriptor"):=by show builtinType _=_;rw [builtinType_eq_fast];kernel_rfl
theorem entry_search:entryFor table "re.Pattern.search"=aa Builtin.«re.Pattern.search»:=ib (by kernel_rfl)
theorem entry_sub:entryFor table "re.Pattern.sub"=aa Builtin.«re.Pattern.sub»:=ib (by kernel_rfl)
theorem entry_loop:entryFor table "re.Pattern.sub.loop"=aa Builtin.«re.Pattern.sub.loop»:=ib (by kernel_rfl)
theorem args_search (a b:ay):argsOk "re.Pattern.search" ⟨[a,b],[]⟩:=by kernel_rfl
theorem args_sub (a b c:ay):argsOk "re.Pattern.sub" ⟨[a,b,c],[]⟩:=by kernel_rfl
end Pat
structure rK (h:aW) (a:aF) (code:Array Nat):Prop where
 at': ∃VT sl p f b t1 t2,h.get? a=aa ⟨.type "re.Pattern",VT,.fields #[p,f,.int 0 t1,.none,.none,.ref b,.int 0 t2],sl⟩/\ ∃ob vs n,h.get? b=aa ob/\ob.data= .seq vs n/\(vs.map reRawOf).map (·.toNat)=code
theorem rK.keep {code:Array Nat} (p:rK h a code) (k:m4 h h'):rK h' a code:=by
 refine si p.at' λVT sl p f b t1 t2 e ob vs n e2 e3 e4=> ?_
 exact ⟨VT,sl,p,f,b,t1,t2,k _ _ e,ob,vs,n,k _ _ e2,e3,e4⟩
section
variable {prog:aG} {w:au} {A:aX} {X:List aF} {I:aW->Prop} {E:ay->aq->Prop}
theorem AY {code:Array Nat} {Q:ReTarget->aq->Prop} (p:rK s.heap a code) (q:Q ⟨.ref a,.str x t,code,x.cps,0,0,0,x.cps.size⟩ s):aC (aI prog w) A (reWholeTarget (.ref a) (.str x t)) Q E s:=by
 refine si p.at' λVT sl p f b t1 t2 e ob vs n e2 e3 e4=> ?_
 refine ae (wpAny_fieldsOf e rfl ?_)
 refine ae (bD (show reTextOf (.str x t)=bG (x.cps,0) from rfl) ?_)
 show aC _ _ (reRawItems (.ref b) >>= λr=>bG _) _ _ _
 refine ae (ae (dY e2 e3 (aj (aj ?_))))
 show Q ⟨_,_,(vs.map reRawOf).map (·.toNat),_,_,_,_,_⟩ _
 rw [e4]
 exact q
theorem Dx {code:Array Nat} {Q:ReTarget->aq->Prop} (p:rK s.heap a code) (hx:x.cps.size<=100000) (q:Q ⟨.ref a,.str x t,code,x.cps,0,0,0,x.cps.size⟩ s):
  aC (aI prog w) A (reTarget "re.Pattern.search" "search" ⟨[.ref a,.str x t],[]⟩) Q E s:=by
 refine si p.at' λVT sl p f b t1 t2 e ob vs n e2 e3 e4=> ?_
 refine ae (bD (show reNamed "re.Pattern.search" "search" ["string","pos","endpos"] 1 [.str x t] []=bG [aa (.str x t),az,az] from rfl) ?_)
 refine ae (aj (ae (aj ?_)))
 refine ae (wpAny_fieldsOf e rfl ?_)
 refine ae (bD (show reTextOf (.str x t)=bG (x.cps,0) from rfl) ?_)
 show aC _ _ (reRawItems (.ref b) >>= λr=>bG _) _ _ _
 refine ae (ae (dY e2 e3 (aj (aj ?_))))
 show Q ⟨_,_,(vs.map reRawOf).map (·.toNat),_,_,_,min (0:Int).toNat x.cps.size,min (2^63 - 1:Int).toNat x.cps.size⟩ _
 rw [e4]
 have h1:min (0:Int).toNat x.cps.size=0:=by rfl
 have h2:min (2^63 - 1:Int).toNat x.cps.size=x.cps.size:=by
  have:(2^63 - 1:Int).toNat=9223372036854775807:=by decide
  exact (mK (.i (.l xA (.c 100000)) (.e (.n (.t (.s xS xI)) xA) xA)) [_]) hx
 rw [h1,h2]
 exact q
theorem GO {Q:Option M->aq->Prop} (h:yo m) (q:Q az s):aC Mo A (reRunToEnd m) Q E s:=by
 obtain ⟨N,hN,e⟩:=h
 exact Fc (N:=N) (by omega) (by exact e▸q)
theorem FQ {Q:Option M->aq->Prop} (h:uy m b e) (q: ∀m',m'.start=b->m'.handed=e->m'.marks= #[]->m'.lastmark= -1->m'.lastindex= -1->Q (aa m') s):aC Mo A (reRunToEnd m) Q E s:=by
 refine Lv h λN hN e1 e2 e3 e4 e5 e6=> ?_
 exact Fc (N:=N) (by omega) (by exact e1▸(q _ e2 e3 e4 e5 e6))
theorem Gm {code:Array Nat} {Q:ay->aq->Prop} (p:rK s.heap a code) (hx:x.cps.size<=100000) (hT:s.TypeIs (.ref a) "re.Pattern") (h:yo (bk code x.cps 0 0 x.cps.size false)) (q:Q .none s):
  aC (aI prog w) A (ft (.builtin "re.Pattern.search") [.ref a,.str x t]) Q E s:=by
 refine dA Pat.slot_search hT Pat.entry_search ?_ (Pat.args_search _ _)
 unfold «re.Pattern.search»
 refine ae (Dx p hx ?_)
 exact ae (GO h (aj ⟨_,rfl,q⟩))
theorem FX {code:Array Nat} {Q:ay->aq->Prop} (p:rK s.heap a code) (hx:x.cps.size<=100000) (hT:s.TypeIs (.ref a) "re.Pattern") (h:uy (bk code x.cps 0 0 x.cps.size false) b e)
  (q: ∀s' c o,bB s s'->s'.heap.get? c=aa o->o.cls= .type "re.Match"->Q (.ref c) s'):
  aC (aI prog w) A (ft (.builtin "re.Pattern.search") [.ref a,.str x t]) Q E s:=by
 refine dA Pat.slot_search hT Pat.entry_search ?_ (Pat.args_search _ _)
 unfold «re.Pattern.search»
 refine ae (Dx p hx ?_)
 refine ae (FQ h λm' e1 e2 e3 e4 e5=> ?_)
 refine ae ?_
 refine ae (eI ?_ (by show 2<=_;decide))
 refine eI ?_ (by show 6<=_;decide)
 exact aj ⟨_,rfl,q _ _ _ (mO (m9 s _ s.toks) (m9 {s with heap:=s.heap.push _} _ _)) (av _ rfl) rfl⟩
end
inductive uH (code:Array Nat) (repl T:List Nat):Nat->List Nat->Prop
 |done (p:Nat):p<=T.length->yo (bk code T.toArray 0 p T.length false)->uH code repl T p (T.drop p)
 |step (p b e:Nat) (r:List Nat):p<=b->b<e->e<=T.length->uy (bk code T.toArray 0 p T.length false) b e->uH code repl T e r->uH code repl T p ((T.drop p).take (b - p)++repl++r)
theorem F6 (T:List Nat) (a b:Nat):(⟨T.toArray.extract a b⟩:Str)=S ((T.drop a).take (b - a)):=by
 simp [List.extract_toArray,List.extract_eq_drop_take]
theorem Jc: ∀xs:List (List Nat),Txt.join (S []) (xs.map S)=S xs.flatten:=by
 intro xs
 show kd _ _=_
 rw [ka]
 induction xs with
 |nil=>rfl
 |cons x xs ih=>
  cases xs with
  |nil=>simp [jp]
  |cons y ys=>
   show S x++S []++jp (S []) (S y::ys.map S)=_
   have:jp (S []) (S y::ys.map S)=S (y::ys).flatten:=ih
   rw [this,uT,uT];simp
theorem ud {ys:List (List Nat)} (h:ys.flatten.length+ys.length*Vv.length<=1000000):JoinOk (S Vv) (ys.map S)=ai:=by
 unfold JoinOk
 rw [StrLaws.joinTotal]
 have e:((ys.map S).map (·.length)).sum=ys.flatten.length:=by
  rw [aB,List.length_flatten]
  congr 1
 rw [e,ah,m6]
 have:=aw
 generalize ys.flatten.length=N at*
 generalize ys.length*Vv.length=K at*
 simp [Str.tooLong]
 exact (mK (.i (.e xC xL) (.i (.l (.a xA xB) (.c 1000000)) (.l (.a xA xB) xC))) [_,_,_]) this h
section
variable {prog:aG} {w:au} {A:aX} {X:List aF} {I:aW->Prop}
theorem EW {Q:Unit->aq->Prop} (pl:s.heap.PlainList D vs.toArray) (hz:vs.length<=100000)
  (q: ∀h',h'.PlainList D (vs++[y]).toArray->cM D s.heap h'->Q () {s with heap:=h'}):aC (aI prog w) A (updateSeq D (·.push y)) Q E s:=by
 obtain ⟨n,ho⟩:=pl
 have:=aw
 refine fg ho rfl (hz:=by simp;exact (mK (.i (.l xA (.c 100000)) (.i (.e xB xL) (.l xA xB))) [_,_]) hz this) (_hz':=by simp;exact (mK (.i (.l xA (.c 100000)) (.i (.e xB xL) (.l xA xB))) [_,_]) hz this) (q _ ⟨n+1,?_⟩ (ef ..))
 rw [cr _ ho (by rw [fF];rfl),fF]
 simp
theorem KJ {T:List Nat} {Q:ay->aq->Prop} (hT:T.length<=1000) (q:Q (.str (S ((T.drop a).take (b - a))) s.toks) {s with toks:=s.toks+1}):aC (aI prog w) A (mkStr ⟨T.toArray.extract a b⟩) Q E s:=by
 rw [F6]
 refine gh q ?_
 have:=aw
 rw [m6,dm,bH];exact (mK (.i (.l xC xQ) (.i (.e xD xL) (.l (.n (.s xA xB) (.s xC xB)) xD))) [_,_,_,_]) hT this
theorem vF:plainId "re.Pattern.sub.loop"=ai:=by decide+kernel
theorem K3 {code:Array Nat} (hT:T.length<=1000) (hr:repl.length<=10): ∀(p:Nat) (r:List Nat),uH code repl T p r->
  ∀(s:aq) (n:Nat) (xs:List (List Nat)) (l:List (Str×Tok)),n<=p->rK s.heap a code->a≠D->(∀VT sl p f b t1 t2,s.heap.get? a=aa ⟨.type "re.Pattern",VT,.fields #[p,f,.int 0 t1,.none,.none,.ref b,.int 0 t2],sl⟩->b≠D)->s.heap.PlainList D (c8 l).toArray->l.map (·.1)=xs.map S->xs.length<=2*n->(xs.flatten).length<=20*p->
   (∀s' tk,nK s s'->(∀b o,b≠D->s.heap.get? b=aa o->s'.heap.get? b=aa o)->R (.ok (.ret (.str (S (xs.flatten++r)) tk))) s')->
   gx (aI prog w) A (.builtin "re.Pattern.sub.loop" ⟨[.ref a,.str (S T) t,.str (S repl) tr,eQ 0,eQ 0,eQ n,eQ p,eQ p,.bool false,.ref D,.bool false],[]⟩) R s:=by
 have hsz:(S T).cps.size=T.length:=by rfl
 intro p r hs
 induction hs with
 |done p hp WT=>
  intro s n xs l hn pa na nb pl hl Vg Xb q
  refine gq Pat.entry_loop ?_
  rw [fG vF _]
  unfold «re.Pattern.sub.loop»
  refine ae (AY pa (bT rfl ?_))
  refine ae (bD (show reLiteralCannotBeTurned (.str (S repl) tr)=bG () from rfl) (ae (bZ rfl (GO WT ?_))))
  have tail: ∀(Ua:aq) (U5:List (Str×Tok)) (ys:List (List Nat)),nK s Ua->(∀b o,b≠D->s.heap.get? b=aa o->Ua.heap.get? b=aa o)->Ua.heap.PlainList D (c8 U5).toArray->U5.map (·.1)=ys.map S->ys.length<=2*n+1->ys.flatten=xs.flatten++T.drop p->
    aC (aI prog w) A.in1 (do
     let Wn <-reSlice (S T).cps 0 0 0
     let Wa <-seqItems? (jq D)
     if (Wa.getD #[]).isEmpty=ai then ret Wn
     else do
      let text <-ft (ay.builtin (if (0==0)=ai then "str.join" else "bytes.join")) [Wn,jq D]
      ret text) (λqx s'=>match qx with|.done f=>R (.ok f) s'|.again c'=>c'.quiet=ai/\gx (aI prog w) A c' R s') (λe s'=>R (.error e) s') Ua:=by
   intro Ua U5 ys ex Uc pl1 VL hy VH
   refine ae (gh ?_ (by simp [fJ]))
   refine eE pl1 λWX V7=> ?_
   have e₁':({Ua with toks:=Ua.toks+1}:aq).heap.get? D=aa {cls:=.type "list",data:=.seq (c8 U5).toArray WX}:=V7
   refine ae (dY e₁' rfl ?_)
   have ej:(⟨(S T).cps.extract 0 0⟩:Str)=S []:=by simp
   rw [ej]
   by_cases h0:((aa (c8 U5).toArray).getD #[]).isEmpty=ai
   ·refine bT (decide_eq_true h0) ?_
    have:U5=[]:=by
     cases U5 with
     |nil=>rfl
     |cons q r=>simp [c8] at h0
    subst this
    have hys:ys=[]:=by cases ys with|nil=>rfl|cons _ _=>simp at VL
    subst hys
    refine aj ?_
    have:=q {Ua with toks:=Ua.toks+1} Ua.toks (ex.trans ⟨_,_,rfl⟩) Uc
    rw [<-VH] at this
    exact this
   ·refine bZ (decide_eq_false h0) (ae ?_)
    have hjoin:Txt.join (S []) (ys.map S)=S (xs.flatten++T.drop p):=by rw [Jc,VH]
    have Xw:({Ua with toks:=Ua.toks+1}:aq).heap.IsList D (c8 U5).toArray:=⟨_,V7,rfl,_,rfl⟩
    refine SC.join Xw VL (ud (by rw [VH,af,bH,bQ,Nat.mul_zero];exact (mK (.i (.l xB xQ) (.i (.l xC xB) (.i (.l xA (.m 20 xC)) (.l (.a (.a xA (.s xB xC)) xJ) (.c 1000000))))) [_,_,_]) hT hp Xb)) λt' k=> ?_
    refine aj ?_
    rw [hjoin]
    exact q _ _ (ex.trans ⟨_,_,rfl⟩) Uc
  by_cases Ux:p<T.length
  ·refine bT (decide_eq_true Ux) ?_
   refine ae (KJ (T:=T) (a:=p) (b:=T.length) hT ?_)
   refine ae (EW (s:={s with toks:=s.toks+1}) pl (by have:=congrArg bj hl;simp [c8] at this ⊢;exact (mK (.i (.l xB xQ) (.i (.l xC xD) (.i (.l xE (.m 2 xC)) (.i (.b xD xB) (.i (.e xA xE) (.l xA (.c 100000))))))) [_,_,_,_,_]) hT hn Vg Ux this) λh' VR sb=> ?_)
   refine tail _ (l++[(S ((T.drop p).take (T.length - p)),s.toks)]) (xs++[T.drop p]) ⟨h',_,rfl⟩ (λb o nb e=>(sb.2 b nb).trans e) (by simpa [c8] using VR) ?_ (by simp;omega) (by simp)
   have:(T.drop p).take (T.length - p)=T.drop p:=bF (by simp)
   rw [this]
   simp [hl]
  ·refine bZ (decide_eq_false Ux) ?_
   exact tail _ l xs (nK.rfl' s) (λy y y e=>e) pl hl (by exact (mK (.i (.l xA (.m 2 xB)) (.l xA (.a (.m 2 xB) xI))) [_,_]) Vg) (by rw [fj (by exact (mK (.i (.n (.b xB xA)) (.l xA xB)) [_,_]) Ux)];simp)
 |step p b e r hpb hbe he Wv sub ih=>
  intro s n xs l hn pa na nb pl hl Vg Xb q
  refine gq Pat.entry_loop ?_
  rw [fG vF _]
  unfold «re.Pattern.sub.loop»
  refine ae (AY pa (bT rfl ?_))
  refine ae (bD (show reLiteralCannotBeTurned (.str (S repl) tr)=bG () from rfl) (ae (bZ rfl (FQ Wv λm' e1 e2 e3 e4 e5=> ?_))))
  obtain rfl:=e1
  obtain rfl:=e2
  have Uu:(m'.handed==m'.start)=false:=beq_eq_false_iff_ne.mpr (by exact (mK (.i (.b xB xA) (.n (.e xA xB))) [_,_]) hbe)
  have Uo:l.length=xs.length:=by have:=congrArg bj hl;simpa using this
  have qx: ∀(Ua:aq) (U5:List (Str×Tok)) (ys:List (List Nat)),nK s Ua->(∀b o,b≠D->s.heap.get? b=aa o->Ua.heap.get? b=aa o)->Ua.heap.PlainList D (c8 U5).toArray->U5.map (·.1)=ys.map S->ys.length<=2*n+1->ys.flatten=xs.flatten++(T.drop p).take (m'.start - p)->
    aC (aI prog w) A.in1 (do
     updateSeq D λx=>x.push (ay.str (S repl) tr)
     again (.builtin "re.Pattern.sub.loop" ⟨[.ref a,.str (S T) t,.str (S repl) tr,.int 0 0,.int 0 0,.int ((n:Int)+1) 0,.int (m'.handed:Int) 0,.int (m'.handed:Int) 0,.bool (m'.handed==m'.start),.ref D,.bool false],[]⟩))
     (λqx s'=>match qx with|.done f=>R (.ok f) s'|.again c'=>c'.quiet=ai/\gx (aI prog w) A c' R s') (λe s'=>R (.error e) s') Ua:=by
   intro Ua U5 ys ex Uc pl1 VL hy VH
   have WO:U5.length=ys.length:=by have:=congrArg bj VL;simpa using this
   refine ae (EW pl1 (by simp [c8];exact (mK (.i (.l xB xQ) (.i (.l xC xD) (.i (.l xD xE) (.i (.l xF xB) (.i (.b xE xF) (.i (.l xG (.a (.m 2 xC) xI)) (.i (.e xA xG) (.l xA (.c 100000))))))))) [_,_,_,_,_,_,_]) hT hn hpb he hbe hy WO) λh' VR sb=> ?_)
   refine aj ⟨jw vF _,?_⟩
   have kk: ∀b o,b≠D->s.heap.get? b=aa o->h'.get? b=aa o:=λb o nb e=>(sb.2 b nb).trans (Uc b o nb e)
   refine si pa.at' λVT sl pp f bb t1 t2 z1 ob vs nn z2 z3 z4=> ?_
   have pa':rK h' a code:=⟨VT,sl,pp,f,bb,t1,t2,kk _ _ na z1,ob,vs,nn,kk _ _ (nb _ _ _ _ _ _ _ z1) z2,z3,z4⟩
   have:=ih {Ua with heap:=h'} (n+1) (ys++[repl]) (U5++[(S repl,tr)]) (by exact (mK (.i (.l xA xC) (.i (.l xC xD) (.i (.b xD xB) (.l (.a xA xI) xB)))) [_,_,_,_]) hn hpb hbe) pa' na (λVT sl p f b t1 t2 z=>by
    have z':=kk _ _ na z1
    have z:h'.get? a=_:=z
    rw [z'] at z
    cases z
    exact nb _ _ _ _ _ _ _ z1) (by simpa [c8] using VR) (by simp [VL]) (by simp;exact (mK (.i (.l xA (.a (.m 2 xB) xI)) (.l (.a xA xI) (.m 2 (.a xB xI)))) [_,_]) hy) (by
     have h1:((T.drop p).take (m'.start - p)).length<=m'.start - p:=iH ..
     rw [eO,VH]
     simp only [af,cu,List.flatten_nil,bK]
     exact (mK (.i (.l xC (.c 10)) (.i (.l xA (.m 20 xE)) (.i (.l xE xF) (.i (.b xF xD) (.i (.l xB (.s xF xE)) (.l (.a (.a xA xB) xC) (.m 20 xD))))))) [_,_,_,_,_,_]) hr Xb hpb hbe h1) (λs' tk ex' k'=>by
     have:=q s' tk (ex.trans (nK.trans ⟨h',Ua.toks,rfl⟩ ex')) (λb o nb e=>k' b o nb (kk b o nb e))
     rw [eO,VH]
     simpa using this)
   rw [Uu,show ((n:Int)+1)=((n+1:Nat):Int) by push_cast;rfl]
   exact this
  by_cases Ux:p<m'.start
  ·refine bT (decide_eq_true Ux) (ae (KJ (T:=T) (a:=p) (b:=m'.start) hT ?_))
   refine ae (EW (s:={s with toks:=s.toks+1}) pl (by simp [c8];exact (mK (.i (.l xB xQ) (.i (.l xC xD) (.i (.l xE (.m 2 xC)) (.i (.l xF xB) (.i (.b xG xF) (.i (.e xA xE) (.i (.b xD xG) (.l xA (.c 100000))))))))) [_,_,_,_,_,_,_]) hT hn Vg he hbe Uo Ux) λh' VR sb=> ?_)
   refine bT rfl (ae (aj (bT rfl ?_)))
   refine qx _ (l++[(S ((T.drop p).take (m'.start - p)),s.toks)]) (xs++[(T.drop p).take (m'.start - p)]) ⟨h',_,rfl⟩ (λb o nb e=>(sb.2 b nb).trans e) (by simpa [c8] using VR) (by simp [hl]) (by simp;omega) (by simp)
  ·refine bZ (decide_eq_false Ux) (bT rfl (ae (aj (bT rfl ?_))))
   have hb:m'.start - p=0:=by exact (mK (.i (.n (.b xB xA)) (.e (.s xA xB) xJ)) [_,_]) Ux
   refine qx _ l xs (nK.rfl' s) (λz z z e=>e) pl hl (by exact (mK (.i (.l xA (.m 2 xB)) (.l xA (.a (.m 2 xB) xI))) [_,_]) Vg) (by rw [hb];simp)
theorem HJ {code:Array Nat} (hI: ∀h,I h->rK h a code) (hT:T.length<=1000) (hr:repl.length<=10) (hb:repl.contains 92=false) (hs:uH code repl T 0 r):
  pZ prog w A X I (.builtin "re.Pattern.sub") [.raw (.ref a),.str (S repl),.str (S T)] (.str (S r)):=λs vs i lx rr=>by
 refine sa (zK rr) λv u z Ub r1 r2 r3=> ?_;obtain rfl:=Ub
 subst r1
 refine eE (nG r2) λtr Ub=> ?_;obtain rfl:=Ub
 refine eE (nG r3) λt Ub=> ?_;obtain rfl:=Ub
 have pa:=hI _ i
 refine si (id pa.at') λVT sl pp f bb t1 t2 z1 ob vs nn z2 z3 z4=> ?_
 refine eo (i9 Pat.slot_sub.plain Pat.entry_sub (Pat.slot_sub.check _ _ _ _ _ _ _ _ ⟨_,z1,rfl⟩ (Pat.args_sub _ _ _) ?_))
 unfold «re.Pattern.sub» reSubstitute
 refine ae (bD (show reNamed "re.Pattern.sub" "sub" ["repl","string","count"] 2 [.str (S repl) tr,.str (S T) t] []=bG [aa (.str (S repl) tr),aa (.str (S T) t),az] from rfl) ?_)
 refine ae (aj ?_)
 refine ae (bD (show specialOf (.str (S repl) tr) "__call__"=bG az from by
  show fu (.type "str") "__call__"=bG az
  rw [cz,bA];kernel_rfl) ?_)
 refine bZ rfl ?_
 refine ae (bD (show asStr? (.str (S repl) tr)=bG (aa (S repl)) from rfl) ?_)
 refine ae (aj ?_)
 refine bZ rfl ?_
 have hlit:(!(S repl).cps.contains 92)=ai:=by
  have:(S repl).cps.contains 92=repl.contains 92:=by simp [S]
  rw [this,hb];rfl
 refine bT (decide_eq_true hlit) ?_
 refine ae (aj ?_)
 refine ae (bL (AY pa ?_))
 refine bZ rfl ?_
 refine ae (wpAny_newList ?_ (by decide))
 refine aj ⟨jw vF _,?_⟩
 have k:=m9 s {cls:=.type "list",data:=.seq ([]:List ay).toArray} s.toks
 have hD:s.heap.get? s.heap.objs.size=az:=nM _
 have ne: ∀{b:aF} {o:Obj},s.heap.get? b=aa o->b≠s.heap.objs.size:=λe q=>by rw [q,hD] at e;exact nE e
 refine K3 (D:=s.heap.objs.size) hT hr 0 r hs {s with heap:=s.heap.push {cls:=.type "list",data:=.seq ([]:List ay).toArray}} 0 [] [] (aN _) (pa.keep (mN k)) (ne z1) (λdct' sl' p' f' b' t1' t2' z=> ?_) ⟨_,av _ rfl⟩ rfl (by simp) (by simp) λs' tk ex k'=> ?_
 ·have z':=mN k _ _ z1
  have z:(s.heap.push {cls:=.type "list",data:=.seq ([]:List ay).toArray}).get? a=_:=z
  rw [z'] at z
  cases z
  exact ne z2
 ·refine rU ex ?_;clear ex;intro h' t' Ub;obtain rfl:=Ub
  exact ⟨⟨h',t',rfl,λb o e=>k' b o (ne e) (mN k _ _ e)⟩,by simpa using ou⟩
end
noncomputable def po:List Nat->List Nat
 |[]=>[]
 |c::r=>match r with
  |d::r'=>if c=13 then (if d=10 then 13::10::po r' else 13::10::po (d::r')) else if c=10 then 13::10::po (d::r') else c::po (d::r')
  |[]=>if c=13\/c=10 then [13,10] else [c]
theorem HQ (h:wM c=false) (r:List Nat):po (c::r)=c::po r:=by
 have h1:c≠13:=by rintro rfl;exact rI h
 have h2:c≠10:=by rintro rfl;exact rI h
 cases r with
 |nil=>simp [po,h1,h2]
 |cons d r=>rw [po];simp [h1,h2]
theorem yr: ∀(UI r:List Nat),(∀c∈UI,wM c=false)->po (UI++r)=UI++po r
 |[],r,_=>rfl
 |c::UI,r,h=>by
  rw [bx,HQ (h c (.head _)),yr UI r λd hd=>h d (.tail _ hd)];rfl
theorem Hs (r:List Nat):po (10::r)=13::10::po r:=by
 cases r with
 |nil=>simp [po]
 |cons d r=>rw [po];rfl
theorem Dj (r:List Nat):po (13::10::r)=13::10::po r:=by rw [po];rfl
theorem Hg (h:r.head?≠aa 10):po (13::r)=13::10::po r:=by
 cases r with
 |nil=>simp [po]
 |cons d r=>
  have:d≠10:=by simpa using h
  rw [po];simp [this]
theorem A9 (f:Nat->Bool) (n:Nat): ∀(m p:Nat),n - p=m->p<=n->(∀i,p<=i->i<n->f i=false)\/ ∃k,p<=k/\k<n/\f k=ai/\ ∀i,p<=i->i<k->f i=false
 |0,p,h,hp=>.inl λi h1 h2=>by exact ((mK (.i (.e (.s xA xB) xJ) (.i (.l xB xC) (.n (.b xC xA)))) [_,_,_]) h h1 h2).elim
 |m+1,p,h,hp=>by
  cases hf:f p with
  |true=>exact .inr ⟨p,aN _,by exact (mK (.i (.e (.s xB xA) (.a xC xI)) (.b xA xB)) [_,_,_]) h,hf,λi h1 h2=>by exact ((mK (.i (.l xA xB) (.n (.b xB xA))) [_,_]) h1 h2).elim⟩
  |false=>
   rcases A9 f n m (p+1) (by exact (mK (.i (.e (.s xA xB) (.a xC xI)) (.e (.s xA (.a xB xI)) xC)) [_,_,_]) h) (by exact (mK (.i (.e (.s xB xA) (.a xC xI)) (.l (.a xA xI) xB)) [_,_,_]) h) with q|⟨k,q1,q2,q3,q4⟩
   ·exact .inl λi h1 h2=>by
     by_cases e:i=p
     ·exact e▸hf
     ·exact q i (by exact (mK (.i (.l xA xB) (.i (.n (.e xB xA)) (.l (.a xA xI) xB))) [_,_]) h1 e) h2
   ·exact .inr ⟨k,by exact (mK (.i (.l (.a xA xI) xB) (.l xA xB)) [_,_]) q1,q2,q3,λi h1 h2=>by
     by_cases e:i=p
     ·exact e▸hf
     ·exact q4 i (by exact (mK (.i (.l xA xB) (.i (.n (.e xB xA)) (.l (.a xA xI) xB))) [_,_]) h1 e) h2⟩
theorem pW (T:List Nat) (i:Nat):T.toArray.getD i 0=T.getD i 0:=by simp [aZ]
theorem DL {T:List Nat} (h:c∈(T.drop p).take (k - p)): ∃i,p<=i/\i<k/\i<T.length/\T.getD i 0=c:=by
 obtain ⟨j,hj,e⟩:=lL h
 rw [dm,bH] at hj
 refine ⟨p+j,by exact mK (.l xA (.a xA xB)) [_,_],by exact (mK (.i (.b xB (.n (.s xC xA) (.s xD xA))) (.b (.a xA xB) xC)) [_,_,_,_]) hj,by exact (mK (.i (.b xB (.n (.s xD xA) (.s xC xA))) (.b (.a xA xB) xC)) [_,_,_,_]) hj,?_⟩
 rw [<-e,List.getElem_take,jk,aZ,aA (by exact (mK (.i (.b xB (.n (.s xD xA) (.s xC xA))) (.b (.a xA xB) xC)) [_,_,_,_]) hj)];rfl
theorem MH {T:List Nat} (h:c∈T.drop p): ∃i,p<=i/\i<T.length/\T.getD i 0=c:=by
 obtain ⟨j,hj,e⟩:=lL h
 rw [bH] at hj
 refine ⟨p+j,by exact mK (.l xA (.a xA xB)) [_,_],by exact (mK (.i (.b xB (.s xC xA)) (.b (.a xA xB) xC)) [_,_,_]) hj,?_⟩
 rw [<-e,jk,aZ,aA (by exact (mK (.i (.b xB (.s xC xA)) (.b (.a xA xB) xC)) [_,_,_]) hj)];rfl
theorem xg {T:List Nat} (h:k<T.length):T.drop k=T.getD k 0::T.drop (k+1):=by
 rw [gw h,aZ,aA h];rfl
theorem I8 {T:List Nat} (h:p<=k):T.drop p=(T.drop p).take (k - p)++T.drop k:=by
 conv=>lhs;rw [<-kZ (k - p) (T.drop p)]
 rw [List.drop_drop,show p+(k - p)=k by exact (mK (.i (.l xA xB) (.e (.a xA (.s xB xA)) xB)) [_,_]) h]
theorem PW (T:List Nat): ∀(m p:Nat),T.length - p<=m->p<=T.length->uH r4 [13,10] T p (po (T.drop p)):=by
 intro m
 induction m with
 |zero=>
  intro p hm hp
  have:p=T.length:=by exact (mK (.i (.l (.s xB xA) xJ) (.i (.l xA xB) (.e xA xB))) [_,_]) hm hp
  subst this
  have:=uH.done (code:=r4) (repl:=[13,10]) (T:=T) T.length (aN _) (JC λi h1 h2=>by exact ((mK (.i (.l xA xB) (.n (.b xB xA))) [_,_]) h1 h2).elim)
  rw [jz] at this ⊢
  exact this
 |succ m ih=>
  intro p hm hp
  rcases A9 (λi=>wM (T.getD i 0)) T.length _ p rfl hp with q|⟨k,q1,q2,q3,q4⟩
  ·have e:po (T.drop p)=T.drop p:=by
    have:=yr (T.drop p) [] λc hc=>by obtain ⟨i,h1,h2,rfl⟩:=MH hc;exact q i h1 h2
    simpa [po] using this
   rw [e]
   exact .done p hp (JC λi h1 h2=>by rw [pW];exact q i h1 h2)
  ·have UW: ∀i,p<=i->i<k->wM (T.toArray.getD i 0)=false:=λi h1 h2=>by rw [pW];exact q4 i h1 h2
   have Wm:po (T.drop p)=(T.drop p).take (k - p)++po (T.drop k):=by
    conv=>lhs;rw [I8 q1]
    exact yr _ _ λc hc=>by obtain ⟨i,h1,h2,_,rfl⟩:=DL hc;exact q4 i h1 h2
   rw [Wm,xg q2]
   have h2:T.getD k 0=10\/T.getD k 0=13:=by simpa [wM] using q3
   rcases h2 with h2|h2
   ·rw [h2,Hs]
    have:=uH.step p k (k+1) _ q1 (by exact mK (.b xA (.a xA xI)) [_]) (by exact (mK (.i (.b xA xB) (.l (.a xA xI) xB)) [_,_]) q2) (Ib (T:=T.toArray) q1 q2 UW (by rw [pW];exact h2)) (ih (k+1) (by exact (mK (.i (.l (.s xA xD) (.a xC xI)) (.i (.l xD xB) (.l (.s xA (.a xB xI)) xC))) [_,_,_,_]) hm q1) (by exact (mK (.i (.b xA xB) (.l (.a xA xI) xB)) [_,_]) q2))
    simpa using this
   ·rw [h2]
    by_cases hn:k+1<T.length/\T.getD (k+1) 0=10
    ·rw [xg hn.1,hn.2,Dj]
     have:=uH.step p k (k+2) _ q1 (by exact mK (.b xA (.a xA xM)) [_]) (by exact (mK (.i (.b (.a xA xI) xB) (.l (.a xA xM) xB)) [_,_]) hn.1) (Ef (T:=T.toArray) q1 hn.1 UW (by rw [pW];exact h2) (by rw [pW];exact hn.2)) (ih (k+2) (by exact (mK (.i (.l (.s xA xD) (.a xC xI)) (.i (.l xD xB) (.l (.s xA (.a xB xM)) xC))) [_,_,_,_]) hm q1) (by exact (mK (.i (.b (.a xA xI) xB) (.l (.a xA xM) xB)) [_,_]) hn.1))
     simpa using this
    ·rw [Hg (by
      by_cases hk:k+1<T.length
      ·rw [xg hk];simpa using λe=>hn ⟨hk,e⟩
      ·rw [fj (by exact (mK (.i (.n (.b (.a xB xI) xA)) (.l xA (.a xB xI))) [_,_]) hk)];decide)]
     have:=uH.step p k (k+1) _ q1 (by exact mK (.b xA (.a xA xI)) [_]) (by exact (mK (.i (.b xA xB) (.l (.a xA xI) xB)) [_,_]) q2) (Iv (T:=T.toArray) q1 q2 UW (by rw [pW];exact h2) (λhk e=>hn ⟨hk,by rw [pW] at e;exact e⟩)) (ih (k+1) (by exact (mK (.i (.l (.s xA xD) (.a xC xI)) (.i (.l xD xB) (.l (.s xA (.a xB xI)) xC))) [_,_,_,_]) hm q1) (by exact (mK (.i (.b xA xB) (.l (.a xA xI) xB)) [_,_]) q2))
     simpa using this
noncomputable def dots:Bool->List Nat->List Nat
 |_,[]=>[]
 |b,c::r=>if b=ai/\c=46 then 46::46::dots false r else c::dots (c==10) r
noncomputable def wU (T:List Nat) (p:Nat):Bool:=p==0||T.getD (p - 1) 0==10
theorem Ea (T:List Nat) (p:Nat):wN T.toArray p=wU T p:=by unfold wN wU;rw [pW]
theorem AJ (T:List Nat): ∀(n p k:Nat),k - p=n->p<=k->k<=T.length->(∀i,p<=i->i<k-> ¬(wU T i=ai/\T.getD i 0=46))->dots (wU T p) (T.drop p)=(T.drop p).take (k - p)++dots (wU T k) (T.drop k)
 |0,p,k,e,hp,hk,_=>by
  have:k=p:=by exact (mK (.i (.e (.s xA xB) xJ) (.i (.l xB xA) (.e xA xB))) [_,_]) e hp
  subst this;simp
 |n+1,p,k,e,hp,hk,h=>by
  have Ux:p<T.length:=by exact (mK (.i (.e (.s xC xA) (.a xD xI)) (.i (.l xC xB) (.b xA xB))) [_,_,_,_]) e hk
  have ih:=AJ T n (p+1) k (by exact (mK (.i (.e (.s xA xB) (.a xC xI)) (.e (.s xA (.a xB xI)) xC)) [_,_,_]) e) (by exact (mK (.i (.e (.s xB xA) (.a xC xI)) (.l (.a xA xI) xB)) [_,_,_]) e) hk λi h1 h2=>h i (by exact (mK (.i (.l (.a xA xI) xB) (.l xA xB)) [_,_]) h1) h2
  have UY:wU T (p+1)=(T.getD p 0==10):=by unfold wU;rfl
  rw [xg Ux,dots,if_neg (h p (aN _) (by exact (mK (.i (.e (.s xB xA) (.a xC xI)) (.b xA xB)) [_,_,_]) e)),<-UY,ih,show k - p=(k - (p+1))+1 by exact (mK (.i (.e (.s xA xB) (.a xC xI)) (.e (.s xA xB) (.a (.s xA (.a xB xI)) xI))) [_,_,_]) e,eN];rfl
theorem Rx (T:List Nat) (hT:T.length<=1000): ∀(m p:Nat),T.length - p<=m->p<=T.length->uH wP [46,46] T p (dots (wU T p) (T.drop p)):=by
 intro m
 induction m with
 |zero=>
  intro p hm hp
  have:p=T.length:=by exact (mK (.i (.l (.s xB xA) xJ) (.i (.l xA xB) (.e xA xB))) [_,_]) hm hp
  subst this
  have:=uH.done (code:=wP) (repl:=[46,46]) (T:=T) T.length (aN _) (Bz hT λi h1 h2=>by exact ((mK (.i (.l xA xB) (.n (.b xB xA))) [_,_]) h1 h2).elim)
  rw [jz] at this ⊢
  exact this
 |succ m ih=>
  intro p hm hp
  rcases A9 (λi=>wU T i&&T.getD i 0==46) T.length _ p rfl hp with q|⟨k,q1,q2,q3,q4⟩
  ·have e:dots (wU T p) (T.drop p)=T.drop p:=by
    rw [AJ T _ p T.length rfl hp (aN _) λi h1 h2 z=>by have:=q i h1 h2;rw [z.1,z.2] at this;exact rI this]
    rw [jz,bF (by simp)];simp [dots]
   rw [e]
   exact .done p hp (Bz hT λi h1 h2 ha hc=>by rw [Ea] at ha;rw [pW] at hc;have:=q i h1 h2;rw [ha,hc] at this;exact rI this)
  ·obtain ⟨ha,hc⟩:wU T k=ai/\T.getD k 0=46:=⟨(aP.mp q3).1,beq_iff_eq.mp (aP.mp q3).2⟩
   have UW: ∀i,p<=i->i<k-> ¬(wU T i=ai/\T.getD i 0=46):=λi h1 h2 z=>by have:=q4 i h1 h2;rw [z.1,z.2] at this;exact rI this
   rw [AJ T _ p k rfl q1 (by exact (mK (.i (.b xA xB) (.l xA xB)) [_,_]) q2) UW,xg q2,dots,if_pos ⟨ha,hc⟩]
   have UY:wU T (k+1)=false:=by unfold wU;rw [jb,hc];rfl
   have:=uH.step p k (k+1) _ q1 (by exact mK (.b xA (.a xA xI)) [_]) (by exact (mK (.i (.b xA xB) (.l (.a xA xI) xB)) [_,_]) q2) (Oa (T:=T.toArray) (lim:=T.length) hT q1 q2 (λi h1 h2 ha hc=>UW i h1 h2 ⟨by rw [<-Ea];exact ha,by rw [<-pW];exact hc⟩) (by rw [Ea];exact ha) (by rw [pW];exact hc)) (ih (k+1) (by exact (mK (.i (.l (.s xA xD) (.a xC xI)) (.i (.l xD xB) (.l (.s xA (.a xB xI)) xC))) [_,_,_,_]) hm q1) (by exact (mK (.i (.b xA xB) (.l (.a xA xI) xB)) [_,_]) q2))
   rw [UY] at this
   simpa using this
end
section
open PySem.Calls PyProof.Rows
section
variable {prog:aG} {w:au} {c:Sc} {σ:m7} {Λ:List (aF×List PV)}
theorem Mf {T id:String} (ho:Ev prog w (fs c σ Λ) o p)
  (hK: ∀(s:aq) v,In c σ Λ s.heap->mV c.X s.heap p v->s.TypeIs v T/\ ∀a,v= .ref a-> ∃ob,s.heap.get? a=aa ob/\ob.dict=az) (pa:jE T) (slot:Slot T name id)
  (VK:kE (.builtin id)=bG (.type "method_descriptor")) (ha:tS prog w (fs c σ Λ) pos (e::es) ps) (hc:pZ prog w c.A c.X (In c σ Λ) (.builtin id) (p::ps) q)
  (UA:autoParam (db o name c.env (bJ o c.env)=bJ o c.env) X1)
  (U9:autoParam (((fb pos (aE (e::es) c.env)).all (λx=> !x.1)&&(cN pos (bR [] c.env)).all (λx=>x.1.isSome)
   &&decide ((e::es).length+([]:List eW).length+(if ([]:List eW).isEmpty then 0 else 1)<30))=ai) X1)
  (UF:autoParam ((apos.endLine==pos.line)=ai) X1) (he:autoParam (aE (e::es) c.env=(false,bJ e c.env)::aE es c.env) X1):
  Ev prog w (fs c σ Λ) (.Call (.Attribute o name apos) (e::es) [] pos) q:=.mk λs i=>
 dN UA U9 UF pa slot VK (ab (ho.run s i) (λov Ua uu=>eA uu λUc Uf=>⟨(hK _ _ (i.mono (mN Uc)) Uf).1,(hK _ _ (i.mono (mN Uc)) Uf).2,nQ (qv (ab (ha.run Ua (i.mono (mN Uc))) (λvs Ud uu=>eA uu λUe Ur=>by
  have Ui:=i.mono (mN (mO Uc Ue))
  exact ⟨rM,ab (hc Ud (ov::vs) Ui Ui.liveAll (mR.cons (Uf.keep (mN Ue)) Ur)) (λz z uu=>eA uu λUm Ut=>⟨mO Uc (mO Ue Um),Ut⟩) λz z e=>e⟩) λz z e=>e) he)⟩) λz z e=>e)
theorem ya (G:Gd w n c) {T id:String} (ho:Ev prog w (fs c σ Λ) o (.raw (.ref a)))
  (hl:(KB w.params).lookup a=aa ob) (hT:ob.cls= .type T) (hd:ob.dict=az) (pa:jE T) (slot:Slot T name id)
  (VK:kE (.builtin id)=bG (.type "method_descriptor")) (ha:tS prog w (fs c σ Λ) pos (e::es) ps) (hc:pZ prog w c.A c.X (In c σ Λ) (.builtin id) (.raw (.ref a)::ps) q)
  (UA:autoParam (db o name c.env (bJ o c.env)=bJ o c.env) X1)
  (U9:autoParam (((fb pos (aE (e::es) c.env)).all (λx=> !x.1)&&(cN pos (bR [] c.env)).all (λx=>x.1.isSome)
   &&decide ((e::es).length+([]:List eW).length+(if ([]:List eW).isEmpty then 0 else 1)<30))=ai) X1)
  (UF:autoParam ((apos.endLine==pos.line)=ai) X1) (he:autoParam (aE (e::es) c.env=(false,bJ e c.env)::aE es c.env) X1):
  Ev prog w (fs c σ Λ) (.Call (.Attribute o name apos) (e::es) [] pos) q:=
 Mf ho (λs v i r=>by
  subst r
  have:=(G.inBase _ i).frag _ _ hl
  exact ⟨⟨_,this,hT⟩,λb e=>by cases e;exact ⟨_,this,hd⟩⟩) pa slot VK ha hc UA U9 UF he
theorem ui (G:Gd w n c) (e:l8 (KB w.params) bn x=aa (aa v)) (hr: ∀h,mV c.X h p v) (hx:autoParam (c.env.kindOf x=aa .globalImplicit) X1) (hd:autoParam ((x==("__debug__":Str))=false) XX):
  Ev prog w (fs c σ Λ) (.Name x pos) p:=
 Cm (v:=v) G.fn hx G.gl (λh i=>(G.inBase h i).glob e) hr hd
end
theorem Oj (b:ox P h):rK h 137 wP:=⟨_,_,_,_,_,_,_,b.frag 137 Mu (by kernel_rfl),_,_,_,b.frag 136 Ql (by kernel_rfl),rfl,by decide+kernel⟩
theorem OB (b:ox P h):rK h 142 r4:=⟨_,_,_,_,_,_,_,b.frag 142 M1 (by kernel_rfl),_,_,_,b.frag 141 QM (by kernel_rfl),rfl,by decide+kernel⟩
theorem O4 (b:ox P h):rK h 159 uA:=⟨_,_,_,_,_,_,_,b.frag 159 HU (by kernel_rfl),_,_,_,b.frag 158 PD (by kernel_rfl),rfl,by decide+kernel⟩
theorem OZ (b:ox P h):rK h 164 ph:=⟨_,_,_,_,_,_,_,b.frag 164 CA (by kernel_rfl),_,_,_,b.frag 163 QQ (by kernel_rfl),rfl,by decide+kernel⟩
theorem L5: ∀(n:Nat) (l:List Nat),l.length<=n->(po l).length<=2*l.length:=by
 intro n
 induction n with
 |zero=>intro l h;have:l=[]:=cC (by exact (mK (.i (.l xA xJ) (.e xA xJ)) [_]) h);subst this;simp [po]
 |succ n ih=>
  intro l h
  cases l with
  |nil=>simp [po]
  |cons c r=>
   cases r with
   |nil=>rw [po];split<;>simp
   |cons d r'=>
    have h1:=ih r' (by simp at h;exact (mK (.i (.l (.a xA xI) xB) (.l xA xB)) [_,_]) h)
    have h2:=ih (d::r') (by simp at h ⊢;omega)
    simp only [aU] at h2 ⊢
    rw [po]
    split
    ·split<;>simp only [aU]<;>(first|exact (mK (.i (.l xA (.m 2 (.a xB xI))) (.l (.a (.a xA xI) xI) (.m 2 (.a (.a xB xI) xI)))) [_,_]) h2|exact (mK (.i (.l xA (.m 2 xB)) (.l (.a (.a xA xI) xI) (.m 2 (.a (.a xB xI) xI)))) [_,_]) h1)
    ·split<;>simp only [aU]<;>(first|exact (mK (.i (.l xA (.m 2 (.a xB xI))) (.l (.a (.a xA xI) xI) (.m 2 (.a (.a xB xI) xI)))) [_,_]) h2|exact (mK (.i (.l xA (.m 2 (.a xB xI))) (.l (.a xA xI) (.m 2 (.a (.a xB xI) xI)))) [_,_]) h2)
end
section
open PySem.Calls PyProof.Rows PySem.Builtin.Str PySem.Builtin
set_option maxHeartbeats 4000000 in
theorem Gx (ha:a.length<=1000000) (hb:b.length<=1000000):
  Meets («str.__mod__» ⟨[.str ⟨#[37,115,58,32,37,115]⟩ t,.ref d],[]⟩) (λz R s=>IsTup s.heap d #[.str a t1,.str b t2]/\ ∀t' k,R (.ok (.ret (.str ((a++PySem.Str.ofString ": ")++b) t'))) {s with toks:=k}):=by kpt_run
section
variable {prog:aG} {w:au} {A:aX} {X:List aF} {I:aW->Prop}
theorem Pu (hm: ∀t t1 t2 d,Meets («str.__mod__» ⟨[.str (S fm) t,.ref d],[]⟩) (λj R s=>IsTup s.heap d #[.str (S a) t1,.str (S b) t2]/\ ∀t' k,R (.ok (.ret (.str T t'))) {s with toks:=k})):
  og prog w A X (cf .Mod) (.str (S fm)) (.tup [.str (S a),.str (S b)]) (.str T):=λs x y j r q=>by
 obtain ⟨t,rfl⟩:=nG r
 refine nw (N2 q) λd vs Ub y ht hr=> ?_;obtain rfl:=Ub
 refine nu (sW hr) λu z Ub r1 r2=> ?_;obtain rfl:=Ub
 obtain ⟨t1,rfl⟩:=nG r1
 obtain ⟨t2,rfl⟩:=nG r2
 have hT:s.TypeIs (.ref d) "tuple":=by
  obtain ⟨o,ho,hc,_⟩:=ht
  exact ⟨o,ho,hc⟩
 exact KPt.bin_left (T:="str") (U:="tuple") (op:=.Mod) (by decide) (dR s _ t) hT F.fills_str_mod KPt.fills_tuple F.slot_str_mod
  (gM F.slot_str_mod (dR s _ t) F.entry_str_mod (F.args_str_mod_2 _ _) (hm t t1 t2 d) ⟨ht,λt' k=>⟨(λe=>nomatch e),oH _ _,ou⟩⟩)
theorem Mb (ha:a.length<=1000000) (hb:b.length<=1000000):og prog w A X (cf .Mod) (.str (S [37,115,58,32,37,115])) (.tup [.str (S a),.str (S b)]) (.str (S (a++58::32::b))):=by
 have e:(S a++PySem.Str.ofString ": ")++S b=S (a++58::32::b):=by
  rw [show PySem.Str.ofString ": "=S [58,32] by decide+kernel,uT,uT,aJ];rfl
 exact e▸Pu λt t1 t2 d=>Gx (by rw [m6];exact ha) (by rw [m6];exact hb)
end
end
section
open PySem.Calls PyProof.Rows PySem.Builtin.Str
section
variable {prog:aG} {w:au} {A:aX} {X:List aF} {I:aW->Prop}
theorem ub (h:l.length<=1000000):tY prog w A X (.str (S l)) (!l.isEmpty):=λs v r=>by
 refine eE (nG r) λt Ub=> ?_;obtain rfl:=Ub
 refine P.truthy_str (by rw [m6];exact (mK (.i (.l xA (.c 1000000)) (.n (.L xS (.k xA)))) [_]) h) ⟨oH _ _,?_⟩
 rw [m6]
 cases l with
 |nil=>rfl
 |cons=>simp;exact mK (.n (.E (.a (.k xA) xI) xJ)) [_]
theorem Am {l:List UInt8} (h:l.length<=1000000):tY prog w A X (.bytes l.toArray) (!l.isEmpty):=λs v r=>by
 refine eE r ?_;clear r;intro t Ub;obtain rfl:=Ub
 refine truthy_bytes (by rw [bq];omega) ⟨oH _ _,?_⟩
 rw [bq]
 cases l with
 |nil=>rfl
 |cons=>simp;exact mK (.n (.E (.a (.k xA) xI) xJ)) [_]
theorem qA:tY prog w A X (.bool b) b:=λs v r=>by
 rw [Ln r]
 exact fO ⟨mU _,rfl⟩
theorem Ky:tY prog w A X (.int i) (i !=0):=λs v r=>by
 refine eE (tz r) λt Ub=> ?_;obtain rfl:=Ub
 exact truthy_int ⟨mU _,rfl⟩
structure H3 (prog:aG) (w:au) (φ:Fs) (es:List Expr) (l:List Nat):Prop where
 run: ∀(s:aq) (UD:List Nat) (Q:Str->aq->Prop),φ.I s.heap->UD.length+l.length<=100000->(∀s',bB s s'->Q (S (UD++l)) s')->PySem.Joins (aI prog w) φ.A (λz z=>False) (evalEach es φ.env) (S UD) Q s
theorem Pm:H3 prog w φ [] []:=.mk λs UD Q i hl q=>by
 have:=q s (mU _)
 rw [bK] at this
 exact this
theorem v6 (h:Ev prog w φ e (.str (S a))) (hs:H3 prog w φ es b):H3 prog w φ (e::es) (a++b):=.mk λs UD Q i hl q=>by
 rw [af] at hl
 have hz:=aw
 refine ab (h.run s i) (λv Ua uu=>eA uu λUc Uf=> ?_) λz z e=>e
 refine eE (nG Uf) λt Ub=> ?_;obtain rfl:=Ub
 refine ⟨_,t,rfl,by rw [uT,m6,af];exact (mK (.i (.l (.a xA (.a xB xD)) (.c 100000)) (.i (.e xC xL) (.l (.a xA xB) xC))) [_,_,_,_]) hl hz,?_⟩
 rw [uT]
 exact hs.run Ua (UD++a) Q (φ.mono' i Uc) (by rw [af];exact (mK (.i (.l (.a xA (.a xB xC)) (.c 100000)) (.l (.a (.a xA xB) xC) (.c 100000))) [_,_,_]) hl) λs' k=>by rw [aJ];exact q s' (mO Uc k)
theorem J5 (h:H3 prog w φ (V7::UO::es) l) (hl:l.length<=100000):Ev prog w φ (.JoinedStr (V7::UO::es) pos) (.str (S l)):=.mk λs i=>by
 have hz:=aw
 refine wpAny_JoinedStr (h.run s [] _ i (by simpa using hl) λs' k=>⟨by rw [dD,m6];exact (mK (.i (.l xA (.c 100000)) (.i (.e xB xL) (.l xA xB))) [_,_]) hl hz,mO k (oH _ _),ou⟩)
theorem NG (h:Ev prog w φ e (.str (S a))) (hl:a.length<=100000):Ev prog w φ (.FormattedValue e 115 az pos) (.str (S a)):=.mk λs i=>by
 have hz:=aw
 have hb:(S a).length<=bo:=by rw [m6];exact (mK (.i (.l xA (.c 100000)) (.i (.e xB xL) (.l xA xB))) [_,_]) hl hz
 refine wpAny_FormattedValue_s (ab (h.run s i) (λv Ua uu=>eA uu λUc Uf=> ?_) λz z e=>e)
 refine eE (nG Uf) λt Ub=> ?_;obtain rfl:=Ub
 exact wpAny_habitSame_str (hx:=hb) (wpAny_formatField_str (hx:=hb) ⟨Uc,ou⟩ ⟨mO Uc (oH _ _),ou⟩)
  (wpAny_formatField_str (hx:=hb) ⟨mO Uc (oH _ _),ou⟩ ⟨mO Uc (oH _ _),ou⟩)
noncomputable def D1:ay->Option (List Nat)
 |.str x _=>aa x.cps.toList
 |_=>az
theorem yi: ∀{ls:List (List Nat)} {vs:List ay},vs.map D1=ls.map aa->mR X h (ls.map λl=>.str (S l)) vs
 |[],[],_=>mR.nil
 |[],_::_,e=>by cases e
 |_::_,[],e=>by cases e
 |l::ls,v::vs,e=>by
  simp only [ba,List.cons.injEq] at e
  refine mR.cons ?_ (yi e.2)
  cases v with
  |str x t=>
   have:=e.1
   simp only [D1,ke] at this
   subst this
   exact ou
  |_=>exact nE e.1
theorem uc (ns:List Str) {ps ds:List PV} (dvs:List ay) (T:qW w.params a fd body) (hds: ∀X h,mR X h ds dvs)
  (Uv: ∀(s:aq) (vs:List ay),ox w.params s.heap->vs.length=ps.length->mi s fd ⟨vs,[]⟩ (ns.zip (vs++dvs)))
  (h: ∀A X g L,oj X g->Gd w n (m5 fd a A X [] g L)->mZ prog w (bf fd L a) (A.deeper (bf fd L a)) (In (m5 fd a A X [] g L) (qr ns (ps++ds)) []) body (uD g X p)) (F:autoParam (KF fd ns=ai) XX):rN prog w (n+1) a ps p:=by
 have F:=wh F
 intro A X I hr hI hO
 refine G8 (qs:=ps++ds) ns (λh i=>(hI h i).defAt T) hr.lim (λs vs i r=> ?_) F λg L i lx=> ?_
 ·exact Uv s vs (hI _ i) r.len _ _ _ _ ⟨mU _,_,rfl,r.append (hds _ _)⟩
 ·exact h A X g L lx ⟨hI g i,hO,hr.deeper _,F.kind,F.gl,F.bl⟩
end
def Has (σ σ':m7):Prop:= ∀q∈σ',σ.lookup q.1=aa q.2
theorem Co:Has σ []:=λz h=>nomatch h
theorem xv (h:σ.lookup x=aa p) (t:Has σ σ'):Has σ ((x,p)::σ'):=λq hq=>by
 rcases ao.mp hq with e|e
 ·subst e;exact h
 ·exact t q e
theorem K5 {σ:m7} (e:σ.lookup x=aa p):(x,p)∈σ:=by
 induction σ with
 |nil=>simp at e
 |cons q σ ih=>
  obtain ⟨y,b⟩:=q
  by_cases hy:(x==y)=ai
  ·simp [aD,hy] at e;subst e;rw [beq_iff_eq.mp hy];exact .head _
  ·simp [aD,hy] at e;exact .tail _ (ih e)
theorem In.has (i:In c σ Λ h) (k:Has σ σ'):In c σ' Λ h:=i.weak λx p e=>k (x,p) (K5 e)
section
variable {prog:aG} {w:au} {c:Sc} {σ σ':m7} {Λ:List (aF×List PV)}
theorem pf (k:Has σ σ') (h:mZ prog w c.env c.A (In c σ' Λ) b J):mZ prog w c.env c.A (In c σ Λ) b J:=tj h (λz i=>i.has k) λz z j=>j
theorem Gd.loop (G:Gd w n c) (k:m4 c.g g') (hf: ∀a∈is,c.g.get? a=az):Gd w n ((c.addX is).at g'):=
 ⟨G.base.keep k,CB (zB G.base hf) G.off,G.room,G.fn,G.gl,G.bl⟩
theorem rQ (G:Gd w n c) {α:Type} {l:List α} {V:α->PV} {bs:α->m7} {J:gV->aW->Prop} (σs:Nat->m7) (Λs:Nat->List (aF×List PV))
  (hi:uF prog w c σ Λ c.own Uh iter (l.map V)) (h0:σs 0=σ) (Xz:Λs 0=Λ) (ha: ∀a is,a∈l->zf prog w (c.addX is) Uh (V a) (bs a))
  (hb: ∀i a g' is,l[i]? =aa a->Gd w n ((c.addX is).at g')->mZ prog w ((c.addX is).at g').env ((c.addX is).at g').A (In ((c.addX is).at g') (bs a++σs i) (Λs i)) body (λfl h=>((fl= .next\/fl= .cont)/\In ((c.addX is).at g') (σs (i+1)) (Λs (i+1)) h)\/((∃v,fl= .ret v)/\J fl h)))
  (hr:mZ prog w c.env c.A (In c (σs l.length) (Λs l.length)) rest J) (hs:autoParam (∀x,cP iter c.env x=bG x) X3):
  mZ prog w c.env c.A (In c σ Λ) (.For Uh iter body [] pos::rest) J:=
 Hk σs Λs hi h0 Xz ha (λi a g' is hk kg hf=>hb i a g' is hk (G.loop kg hf)) hr hs
theorem qT {J:gV->aW->Prop} (k:Has σ σ'):mZ prog w c'.env c'.A (In c' σ Λ) [] (λfl h=>((fl= .next\/fl= .cont)/\In c' σ' Λ h)\/((∃v,fl= .ret v)/\J fl h)):=sO λg i=>.inl ⟨.inl rfl,i.has k⟩
theorem J1 {J:gV->aW->Prop} (k:Has σ σ'):mZ prog w c'.env c'.A (In c' σ Λ) (.Continue pos::b) (λfl h=>((fl= .next\/fl= .cont)/\In c' σ' Λ h)\/((∃v,fl= .ret v)/\J fl h)):=EL λg i=>.inl ⟨.inr rfl,i.has k⟩
theorem Hc {ι:Type} {P:ι->Prop} {m:ι->Nat} {σs:ι->m7} {Λs:ι->List (aF×List PV)} {i:ι} (j:ι) (hP:P j) (hm:m j<m i) (hL:Λs j=Λ) (k:Has σ (σs j)):
  mZ prog w c.env c.A (In c σ Λ) [] (λfl h=>(fl= .next\/fl= .cont)/\ ∃j,P j/\m j<m i/\In c (σs j) (Λs j) h):=sO λg q=>⟨.inl rfl,j,hP,hm,by rw [hL];exact q.has k⟩
theorem Ps {ι:Type} {P:ι->Prop} {m:ι->Nat} {σs:ι->m7} {Λs:ι->List (aF×List PV)} {i:ι} (j:ι) (hP:P j) (hm:m j<m i) (hL:Λs j=Λ) (k:Has σ (σs j)):
  mZ prog w c.env c.A (In c σ Λ) (.Continue pos::b) (λfl h=>(fl= .next\/fl= .cont)/\ ∃j,P j/\m j<m i/\In c (σs j) (Λs j) h):=EL λg q=>⟨.inr rfl,j,hP,hm,by rw [hL];exact q.has k⟩
end
section
variable {prog:aG} {w:au} {A:aX} {X:List aF} {I:aW->Prop}
theorem wX:og prog w A X (bP .In) (.str y) (.str x) (.bool (Txt.contains x y)):=λs a b z r q=>by
 obtain ⟨t,rfl⟩:=nG r;obtain ⟨u,rfl⟩:=nG q
 exact P.in_str ⟨mU _,uI⟩
theorem Ep:og prog w A X (bP .NotIn) (.str y) (.str x) (.bool (!Txt.contains x y)):=λs a b z r q=>by
 obtain ⟨t,rfl⟩:=nG r;obtain ⟨u,rfl⟩:=nG q
 exact P.notIn_str ⟨mU _,uI⟩
theorem tc (l:List Nat) (c:Nat):Txt.contains (S l) (S [c])=l.contains c:=by
 show (!(j9 (S l) ⟨#[c]⟩ 0 (S l).length 1).isEmpty)=_
 rw [StrLaws.found_one]
 simp
end
section
variable {α:Type}
theorem xU (n i:Nat):dQ n (i:Int)=min i n:=by
 have:=clipAt_cast n (i:Int)
 rw [if_neg (by exact mK (.n (.B (.k xA) xJ)) [_])] at this
 exact (mK (.i (.E (.k xA) (.x xJ (.n (.k xB) (.k xC)))) (.e xA (.n xB xC))) [_,_,_]) this
theorem AG (n k:Nat) (hk:1<=k):dQ n (-(k:Int))=n - k:=by
 have:=clipAt_cast n (-(k:Int))
 rw [if_pos (by exact (mK (.i (.l xI xA) (.B (.g (.k xA)) xJ)) [_]) hk)] at this
 exact (mK (.i (.E (.k xA) (.x xJ (.n (.a (.g (.k xC)) (.k xB)) (.k xB)))) (.e xA (.s xB xC))) [_,_,_]) this
theorem EC {l:List α} (h:min a l.length=min b l.length):l.take a=l.take b:=List.take_eq_take_iff.mpr h
theorem Ft (l:List α) (i:Nat):l.drop (min i l.length)=l.drop i:=by
 rcases kR i l.length with h|h
 ·rw [fX h]
 ·rw [Nat.min_eq_right h,fq (aN _),fq h]
theorem Bi (l:List α) (i j:Nat):ri l (aa (i:Int)) (aa (j:Int))=(l.drop i).take (j - i):=by
 show (l.drop (dQ l.length (i:Int))).take (dQ l.length (j:Int) - dQ l.length (i:Int))=_
 rw [xU,xU,Ft]
 refine EC ?_
 rw [bH]
 rcases kR i l.length with h|h
 ·rw [fX h,<-Nat.sub_min_sub_right,Nat.min_assoc,Nat.min_self]
 ·rw [ic h,kQ,kQ]
theorem QE (l:List α) (i:Nat):ri l (aa (i:Int)) az=l.drop i:=by
 show (l.drop (dQ l.length (i:Int))).take (l.length - dQ l.length (i:Int))=_
 rw [xU,Ft]
 refine bF ?_
 rw [bH]
 exact mK (.l (.s xA xB) (.s xA (.n xB xA))) [_,_]
theorem Kv (l:List α) (j:Nat):ri l az (aa (j:Int))=l.take j:=by
 show (l.drop 0).take (dQ l.length (j:Int) - 0)=_
 rw [xU,eG]
 exact EC (by exact mK (.e (.n (.s (.n xA xB) xJ) xB) (.n xA xB)) [_,_])
theorem BG (l:List α) (k:Nat) (hk:1<=k):ri l az (aa (-(k:Int)))=l.take (l.length - k):=by
 show (l.drop 0).take (dQ l.length (-(k:Int)) - 0)=_
 rw [AG _ _ hk,eG,g5]
theorem PJ (l:List α):ri l az az=l:=by
 show (l.drop 0).take (l.length - 0)=_
 simp
end
end
section
open PySem.Calls PyProof.Rows PySem.Builtin.Str PySem.Builtin
namespace BA
noncomputable def bound (D:aF):Obj:={cls:=.type "builtin_function_or_method",data:=.fields #[.builtin "list.append",.ref D]}
theorem slot_get:Slot "method_descriptor" "__get__" "method_descriptor.__get__":=
 .of (owner:="method_descriptor") (n:="__get__") (by rw [cz,bA];kernel_rfl) (by decide+kernel) (by decide+kernel) (by decide+kernel)
  (by first|exact .inl (by decide+kernel)|exact .inr (by decide+kernel)) (by rw [dZ];kernel_rfl)
theorem entry_get:entryFor table "method_descriptor.__get__"=aa Builtin.«method_descriptor.__get__»:=ib (by kernel_rfl)
theorem args_get (a b c:ay):argsOk "method_descriptor.__get__" ⟨[a,b,c],[]⟩:=by kernel_rfl
theorem no_set:fu (.type "method_descriptor") "__set__"=bG az:=by rw [cz,bA];kernel_rfl
theorem no_delete:fu (.type "method_descriptor") "__delete__"=bG az:=by rw [cz,bA];kernel_rfl
theorem sub_list:jT (.type "list") (.type "list")=bG ai:=by rw [dZ];kernel_rfl
theorem not_told:Manifest.toldItsClass.contains "list.append"=false:=by decide+kernel
section
variable {prog:aG} {w:au} {M:Model} {A:aX} {E:ay->aq->Prop} {s:aq} {D:aF} {vs:Array ay} {n:Nat}
theorem run_get {P:Fin->aq->Prop} (hD:s.heap.get? D=aa {cls:=.type "list",data:=.seq vs n}) (h:P (.done (.ret (.ref s.heap.objs.size))) {s with heap:=s.heap.push (bound D)}):
  aC M A (Builtin.«method_descriptor.__get__» ⟨[.builtin "list.append",.ref D,.type "list"],[]⟩) P E s:=by
 unfold Builtin.«method_descriptor.__get__»
 refine ae (bD (a:=(.builtin "list.append",aa (.ref D),aa (.type "list"))) (by first|rfl|kernel_rfl) ?_)
 simp only [not_told]
 have hT:s.TypeIs (.ref D) "list":=⟨_,hD,rfl⟩
 have e1:(kfb_private% "nameAndClass") (.builtin "list.append")=bG (PySem.Str.ofString "append",.type "list"):=by first|rfl|kernel_rfl
 refine g4 rfl ?_
 k_delta "bindBuiltin"
 k_delta "checkInstance"
 refine ae (ae (bD e1 ?_))
 refine ae (jW hT sub_list ?_)
 refine g4 rfl ?_
 exact aj (ae (eI (aj h)))
theorem run_find {t:Tok} {P:PySem.Fin->aq->Prop} (hD:s.heap.get? D=aa {cls:=.type "list",data:=.seq vs n})
  (h:P (.done (.ret (.ref s.heap.objs.size))) {s with heap:=s.heap.push (bound D)}):
  aC (aI prog w) A (Builtin.«object.__getattribute__» ⟨[.ref D,.str "append" t],[]⟩) P E s:=by
 obtain ⟨hp,g,d,tk,os⟩:=s
 have hT:(⟨hp,g,d,tk,os⟩:aq).TypeIs (.ref D) "list":=⟨_,hD,rfl⟩
 have f6:=F.slot_list_append.lookup
 have f7:=F.type_list_append
 have f8:=slot_get.lookup
 have f9:=no_set
 have f10:=no_delete
 unfold Builtin.«object.__getattribute__»
 repeat (any_goals (first|assumption|wp_step))
 refine i9 slot_get.plain entry_get (slot_get.check _ _ _ _ _ _ _ _ f7 (args_get _ _ _) (run_get hD ?_))
 exact aj h
theorem getAttr_append {Q:ay->aq->Prop} (hD:s.heap.get? D=aa {cls:=.type "list",data:=.seq vs n})
  (h: ∀tk,Q (.ref s.heap.objs.size) {s with heap:=s.heap.push (bound D),toks:=tk}):aC (aI prog w) A (getAttr (.ref D) "append" ai) Q E s:=by
 obtain ⟨hp,g,d,tk,os⟩:=s
 have hT: ∀tk',(⟨hp,g,d,tk',os⟩:aq).TypeIs (.ref D) "list":=λz=>⟨_,hD,rfl⟩
 have f3:=F.slot_list_getattribute.lookup
 have f4:=F.slot_list_getattribute.bind (.ref D)
 have f5:=am_list_getattr_none
 repeat (any_goals (first|assumption|exact hT _|wp_step))
 exact i9 F.slot_list_getattribute.plain am_entry_list_getattribute (F.slot_list_getattribute.check _ _ _ _ _ _ _ _ (hT _) (F.args_list_getattribute_2 _ _) (run_find hD (aj (h _))))
def StandsAt (x D:aF) (h:aW):Prop:=h.get? x=aa (bound D)
theorem callWith_fields {x:aF} {pos:Pos} {first:List ay} {args:List (Bool×Sem ay)} {Q:ay->aq->Prop} (Xm:args.any (·.1)=false)
  (h:aC M A (evalArgs (.ref x) ai args []) (λy Ua=>StandsAt x D Ua.heap/\aC M A (ft (.ref x) (first++y.pos) y.kw) Q E Ua) E s):aC M A (gJ pos (.ref x) first args []) Q E s:=by
 refine ae (bL (ab h (λx Ua Ul=>ae (eD ?_)) λz z x=>x))
 refine eA Ul λho Wr=> ?_
 simp only [Xm,List.any_nil,iM]
 refine ae (m:=keeperOf (.ref _)) ?_
 refine ae (wpAny_load ho ?_)
 refine KFB.if_so (show (du "builtin_function_or_method"!=du "method")=ai by decide) ?_
 refine aj ?_
 exact ae (ab Wr (λr Ud hr=>ae (bL (wpAny_point (aj hr)))) λz z x=>x)
theorem quiet: ∀{as:Args},(Code.builtin "list.append" as).quiet=ai:=Code.quiet_builtin _ (by decide+kernel)
theorem sub_module:jT (.type "list") (.type "module")=bG false:=by rw [dZ];kernel_rfl
theorem sigd:(hF "list.append").isSome=ai:=by rw [lA (id:="list.append") (n:=['d','n','e','p','p','a']) (o:=['t','s','i','l']) (by kernel_rfl) F.owner_list];kernel_rfl
theorem kind:builtinKind "list.append"=aa .method:=by kernel_rfl
theorem noVar:Manifest.varargsMethods.contains "list.append"=false:=by decide+kernel
theorem args_here {D:aF} {y:ay}:(match hF "list.append" with|some sig=>Bind.checkArgs "list.append" {sig with full:="list.append"} ⟨[.ref D,y],[]⟩|none=>bG ())=bG ():=by
 rw [lA (id:="list.append") (n:=['d','n','e','p','p','a']) (o:=['t','s','i','l']) (by kernel_rfl) F.owner_list];kernel_rfl
theorem check {y:ay} {Q:Unit->aq->Prop} (hD:s.heap.get? D=aa {cls:=.type "list",data:=.seq vs n}) (h:Q () s):aC M A (checkBoundCall "list.append" ⟨[.ref D,y],[]⟩) Q E s:=by
 have hT:s.TypeIs (.ref D) "list":=⟨_,hD,rfl⟩
 have hg:=args_here (D:=D) (y:=y)
 unfold checkBoundCall
 cases hs:hF "list.append" with
 |none=>have:=sigd;rw [hs] at this;exact oW this
 |some sig=>
  rw [hs] at hg
  dsimp only at hg ⊢
  rw [kind]
  refine g4 rfl ?_
  refine ae (jW hT sub_module ?_)
  rw [noVar]
  refine g4 rfl ?_
  have e:(toString (Bind.lastOf "list")++toString "."++toString (Bind.lastOf "list.append"):String)="list.append":=by decide+kernel
  refine ae ?_
  simp only [isType,loadHead]
  refine ae (kK hD (aj ?_))
  refine g4 rfl ?_
  refine ae (wpAny_typeOf hT ?_)
  dsimp only
  rw [e]
  exact bD hg h
theorem call_app {x:aF} {y:ay} {Uq:Array ay} {Q:ay->aq->Prop} (ho:StandsAt x D s.heap) (hl:s.heap.PlainList D Uq)
  (hQ: ∀h',h'.PlainList D (Uq.push y)->cM D s.heap h'->Q .none {s with heap:=h'}) (hsz:Uq.size<=bo):aC (aI prog w) A (ft (.ref x) [y]) Q E s:=by
 refine eo (codeAny_of_tree ?_)
 refine ae (wpAny_load ho ?_)
 show aC _ _ (if (du "builtin_function_or_method"==du "method"||Value.type "builtin_function_or_method"==du "builtin_function_or_method"||Value.type "builtin_function_or_method"==du "method-wrapper")=ai then _ else _) _ _ _
 refine KFB.if_so (by decide) ?_
 show aC _ _ (if (du "builtin_function_or_method"!=du "method")=ai then _ else _) _ _ _
 refine KFB.if_so (by decide) ?_
 refine eE hl λn hl=> ?_
 refine ae (check hl ?_)
 refine aj ⟨quiet,gq entry_list_append ?_⟩
 show aC _ _ (updateSeq D (·.push y) >>= λz=>ret .none) _ _ s
 refine ae ?_
 refine fg hl rfl (aj (hQ _ ⟨n+1,?_⟩ (ef ..)))
 rw [cr _ hl (by rw [fF];rfl),fF]
end
end BA
end
section
open PySem.Calls PyProof.Rows PySem.Builtin.Str
section
variable {prog:aG} {w:au} {c:Sc} {σ:m7} {Λ:List (aF×List PV)}
theorem Gd.addOwn (G:Gd w n c) (D:aF):Gd w n (c.addOwn D):=⟨G.base,G.off,G.room,G.fn,G.gl,G.bl⟩
theorem Gd.at' (G:Gd w n c) (k:m4 c.g g'):Gd w n (c.at g'):=⟨G.base.keep k,G.off,G.room,G.fn,G.gl,G.bl⟩
theorem wv (G:Gd w n c) {α:Type} {l:List α} {V:α->PV} {bs:α->m7} (σs:Nat->m7) (Λs:Nat->List (aF×List PV))
  (hi:uF prog w c σ Λ c.own Uh iter (l.map V)) (h0:σs 0=σ) (Xz:Λs 0=Λ) (ha: ∀a is,a∈l->zf prog w (c.addX is) Uh (V a) (bs a))
  (hb: ∀i a g' is,l[i]? =aa a->Gd w n ((c.addX is).at g')->m4 c.g g'->mZ prog w ((c.addX is).at g').env ((c.addX is).at g').A (In ((c.addX is).at g') (bs a++σs i) (Λs i)) body (λfl h=>((fl= .next\/fl= .cont)/\In ((c.addX is).at g') (σs (i+1)) (Λs (i+1)) h)\/((∃v,fl= .ret v)/\J fl h)))
  (hr:mZ prog w c.env c.A (In c (σs l.length) (Λs l.length)) rest J) (hs:autoParam (∀x,cP iter c.env x=bG x) X3):
  mZ prog w c.env c.A (In c σ Λ) (.For Uh iter body [] pos::rest) J:=
 Hk σs Λs hi h0 Xz ha (λi a g' is hk kg hf=>hb i a g' is hk (G.loop kg hf) kg) hr hs
theorem Gz (hy:σ.lookup y=aa (.raw (.ref D))) (hl: ∃q∈Λ,q.1=D)
  (hb: ∀m g',m4 c.g g'->g'.get? m=aa (BA.bound D)->mZ prog w (c.at g').env (c.at g').A (In (c.at g') ((x,.raw (.ref m))::σ) Λ) b J)
  (hx:autoParam (sG c x) X2) (hk:autoParam (c.env.scope.kind= .function) X1) (hd:autoParam ((y==("__debug__":Str))=false) XX)
  (hs:autoParam (cK (.Attribute (.Name y yp) ("append":Str) ap) (aa (.Name x px)) pos.line c.env=bG false) X1)
  (UA:autoParam (db (.Name y yp) ("append":Str) c.env (bJ (.Name y yp) c.env)=bJ (.Name y yp) c.env) X1) (ht:autoParam (∀o r,i8 (.Name y yp) o r=bG ()) X4):
  mZ prog w c.env c.A (In c σ Λ) (.Assign [.Name x px] (.Attribute (.Name y yp) ("append":Str) ap) pos::b) J:=.mk λs i=>by
 refine mX (i.look hy) λv L rv=> ?_
 subst rv
 refine mX hl ?_;clear hl;intro q hq Ub;obtain rfl:=Ub
 obtain ⟨hD,vs,⟨n,pl⟩,rs⟩:=i.lists _ hq
 rw [ci]
 refine ae (cO ?_ hs)
 rw [arm_eval_Attribute,UA]
 refine ae (jC (ve hk L ?_) hd)
 refine ae (eD ?_)
 refine ae (bL ?_)
 refine BA.getAttr_append pl λtk=> ?_
 rw [ht]
 refine ae (aj (aj ?_))
 have Uc:bB s {s with heap:=s.heap.push (BA.bound q.1),toks:=tk}:=m9 s _ tk
 have Uj:=i.mono (mN Uc)
 refine ab (rJ (p:=.raw (.ref s.heap.objs.size)) Uj hx pi hk) (λz Ud uu=>rW uu λUO Ui kx=> ?_) λz z e=>e
 have hn:s.heap.objs.size∉c.own:=λhm=>by obtain ⟨_,e⟩:=i.live _ hm;exact absurd (aR e) (bY _)
 have hm:(hideAll Ud.heap c.own).get? s.heap.objs.size=aa (BA.bound q.1):=by
  exact bS _ (kx _ _ hn (av _ rfl)) hn
 exact ab ((hb _ _ (w0 Ui) hm).run Ud Ui.hide) (λfl Uk uu=>eA uu λUT j=>⟨((nK.of Uc).trans (UO.trans UT)),j⟩) λz z e=>e
theorem tN (hm:c.g.get? m=aa (BA.bound D)) (hx:σ.lookup x=aa (.raw (.ref m)))
  (he:Ev prog w (fs c σ ((D,l)::Λ)) e p) (hsz:l.length<=bo) (Uu: ∀q∈Λ,q.1≠D)
  (hb:mZ prog w c.env c.A (In c σ ((D,l++[p])::Λ)) b J)
  (hi:autoParam (i6 c.env=false) X1) (hs:autoParam (cK (.Call (.Name x xp) [e] [] pos) az Vt.line c.env=bG false) X1)
  (hd:autoParam ((x==("__debug__":Str))=false) XX) (hk:autoParam (c.env.scope.kind= .function) X1)
  (U1:autoParam (aE [e] c.env=(false,bJ e c.env)::aE [] c.env) X1):
  mZ prog w c.env c.A (In c σ ((D,l)::Λ)) (.Expr (.Call (.Name x xp) [e] [] pos) Vt::b) J:=
 qZ (I':=In c σ ((D,l++[p])::Λ)) (λs i=>by
  refine mX (i.look hx) λv L rv=> ?_
  subst rv
  refine fM ?_ hi hs
  refine cm (jC (ve hk L ?_) hd)
  refine BA.callWith_fields (D:=D) (by rw [U1];rfl) (qv (cB (ab (he.run s i) (λu Ua uu=>eA uu λUc Uf=>cG ?_) λz z e=>e) U1) U1)
  have Uj:=i.mono (mN Uc)
  have hm1:Ua.heap.get? m=aa (BA.bound D):=Uj.keep _ _ hm
  refine ⟨hm1,?_⟩
  refine o8 (Uj.lists _ (.head _)) λhD vs pl rs=> ?_
  refine BA.call_app hm1 pl (λh' hl XS=>⟨(nK.of Uc).trans ⟨_,_,rfl⟩,Uj.push Uf (λus pu=> ?_) XS Uu⟩) (by rw [bq,rs.len];exact hsz)
  refine eE pl λn e=> ?_
  refine eE pu λn' e'=> ?_
  rw [e] at e'
  have:vs=us:=by
   have q:=congrArg Obj.data (am e')
   injection q with q1 q2
   simpa using q1
  subst this
  simpa using hl) hb
theorem sw {J:gV->aW->Prop} (k:Has σ σ') (e:Λ=Λ'):mZ prog w c'.env c'.A (In c' σ Λ) [] (λfl h=>((fl= .next\/fl= .cont)/\In c' σ' Λ' h)\/((∃v,fl= .ret v)/\J fl h)):=by subst e;exact qT k
end
end
section
open PySem.Calls PyProof.Rows PySem.Builtin.Str
def ur (X:List aF) (h:aW) (a:aF) (l:List PV):Prop:= ∃d D vs,oX h a d D/\h.IsList D vs.toArray/\mR X h l vs
theorem oX.keep (t:oX h a d D) (k:m4 h h'):oX h' a d D:=⟨k _ _ t.obj,let ⟨o,e,r⟩:=t.dic;⟨o,k _ _ e,r⟩⟩
theorem ur.keep (t:ur X h a l) (k:m4 h h'):ur X h' a l:=
 let ⟨d,D,vs,x,y,z⟩:=t;⟨d,D,vs,x.keep k,y.at λo e=>k _ _ e,z.keep k⟩
theorem ur.sub (t:ur X h a l) (k: ∀b,b∈Y->(∃o,h.get? b=aa o)->b∈X):ur Y h a l:=
 let ⟨d,D,vs,x,y,z⟩:=t;⟨d,D,vs,x,y,z.sub k⟩
theorem vQ (t:oX h a d D): ∃od,InstAt h a (gd 293 d) 293 (aa od)/\gp "_headers" od=aa (aa (.ref D))/\ ∀n:Str,(n=="_headers")=false->gp n od=aa az:=
 let ⟨od,e,p,q⟩:=t.dic;⟨od,⟨t.obj,rfl,rfl,e⟩,p,q⟩
theorem BX (P:aQ):iV (KB P) (.ref 293) "__getattribute__"=aa (aa (.builtin "object.__getattribute__")):=by kernel_rfl
theorem DR (P:aQ):iV (KB P) (.ref 293) "__getattr__"=aa az:=by kernel_rfl
theorem RE (P:aQ):iV (KB P) (.ref 293) "_headers"=aa az:=by kernel_rfl
theorem GZ (P:aQ):(clsIn (KB P) 293).any (·.hasDict)=ai:=by kernel_rfl
theorem Pl (e:gp "_headers" od=aa (aa (.ref D))):findObj (KB P) 293 (aa od) "_headers"=aa (.value (.ref D)):=by
 refine mX (any_some (GZ P)) λcd hc hd=> ?_
 unfold findObj
 rw [hc,gG,RE,gG]
 unfold W.ownOf
 rw [gG,gG,hd,if_pos rfl]
 dsimp only
 rw [e];rfl
section
variable {prog:aG} {w:au} {c:Sc} {σ:m7} {Λ:List (aF×List PV)}
theorem uP (G:Gd w n c) (ho:Ev prog w (fs c σ Λ) o (.raw (.ref a))) (ht:oX c.g a d D)
  (UA:autoParam (db o "_headers" c.env (bJ o c.env)=bJ o c.env) X1) (hl:autoParam (∀v r,i8 o v r=bG ()) X4):
  Ev prog w (fs c σ Λ) (.Attribute o "_headers" ap) (.raw (.ref D)):=.mk λs i=>by
 show aC _ _ (bJ _ c.env) _ _ s
 rw [arm_eval_Attribute,UA]
 refine ae (ab (ho.run s i) (λv Ua uu=>eA uu λUc Uf=> ?_) λz z e=>e)
 subst Uf
 have Uj:=i.mono (mN Uc)
 refine ae (eD (ae (bL ?_)))
 refine tL (vQ (ht.keep Uj.keep)) λod I e1 e2=> ?_
 refine get_value (G.inBase _ Uj).frag I (BX _) (Pl e1) rfl ?_
 rw [hl]
 exact ae (aj (aj ⟨mO Uc (oH _ _),pi⟩))
def EN (prog:aG) (w:au) (φ:Fs) (pos:Pos) (Vp:List eW) (ks:List (Str×PV)):Prop:=
 (cN pos (bR Vp φ.env)).all (·.1.isSome)=ai/\(cN pos (bR Vp φ.env)).filterMap (·.1)=ks.map (·.1)/\
 ∀s:aq,φ.I s.heap->aC (aI prog w) φ.A (evalAll ((cN pos (bR Vp φ.env)).map (·.2))) (λus s'=>bB s s'/\mR φ.X s'.heap (ks.map (·.2)) us) (λz z=>False) s
theorem x9:EN prog w φ pos [] []:=⟨rfl,rfl,λs i=>kwAll_nil ⟨mU _,mR.nil⟩⟩
theorem yf (h:Ev prog w φ e q):EN prog w φ pos [⟨aa name,e,p⟩] [(name,q)]:=
 ⟨rfl,rfl,λs i=>kwAll_cons (ab (h.run s i) (λv Ua uu=>eA uu λUc Uf=>kwAll_nil ⟨Uc,mR.cons Uf mR.nil⟩) λz z e=>e)⟩
structure tO (prog:aG) (w:au) (φ:Fs) (o:Expr) (H:aW->aF->Prop):Prop where
 run: ∀s:aq,φ.I s.heap->aC (aI prog w) φ.A (bJ o φ.env) (λv s'=>bB s s'/\ ∃a,v= .ref a/\H s'.heap a) (λz z=>False) s
theorem NE (G:Gd w n c)
  (ho:tO prog w (fs c σ Λ) o H) (hH: ∀h a,H h a-> ∃d D,oX h a d D) (hm: ∀h h' a,H h a->m4 h h'->H h' a)
  (hf:iV (KB w.params) (.ref 293) name=aa (aa (.ref f))) (Wh:(KB w.params).lookup f=aa ⟨oc,od,.func fd,sl⟩) (hn:(name==("_headers":Str))=false) (VK:me (KB w.params) (.ref f)=aa (.type "function"))
  (ha:tS prog w (fs c σ Λ) pos (e::es) ps) (hk:EN prog w (fs c σ Λ) pos Vp ks) (hc: ∀a,Ir prog w c.A c.X (λh=>In c σ Λ h/\H h a) (.ref f) (.raw (.ref a)::ps) ks q)
  (V5:autoParam (bJ (.Call (.Attribute o name apos) (e::es) Vp pos) c.env=(do
   let ov <-bJ o c.env
   iv apos.atName
   let (f,first) <-gW [ov] (hZ ov name pl)
   gJ pos f first (fb pos (aE (e::es) c.env)) (cN pos (bR Vp c.env)))) X1)
  (he:autoParam (aE (e::es) c.env=(false,bJ e c.env)::aE es c.env) X1):
  Ev prog w (fs c σ Λ) (.Call (.Attribute o name apos) (e::es) Vp pos) q:=.mk λs i=>by
 refine jx (ab (ho.run s i) (λv Ua uu=>o8 uu λUc a ea Ul=> ?_) λz z e=>e) V5
 subst ea
 have Uj:=i.mono (mN Uc)
 refine rU (hH _ _ Ul) λd D t=> ?_
 refine tL (vQ t) λW1 I e1 e2=> ?_
 refine lS (G.inBase _ Uj).frag I (BX _) (DR _) hf VK (by show (gp name W1).map _=_;rw [e2 _ hn];rfl) ?_
 refine nQ (evalArgs_kw2 hk.1 (ab (ha.run Ua Uj) (λvs Ud uu=>eA uu λUe Ur=>ab (hk.2.2 Ud (Uj.mono (mN Ue))) (λus Uk uu=>eA uu λUm Ut=> ?_) λz z e=>e) λz z e=>e) he)
 have k13:=mO Ue Um
 have Us:=Uj.mono (mN k13)
 refine ⟨rE ((G.inBase _ Us).frag _ _ Wh) rfl,?_⟩
 show aC _ _ (ft (.ref f) ([.ref a]++vs) ((io (λx=>x.fst) (cN pos (bR Vp c.env))).zip us)) _ _ _
 rw [show io (λx=>x.fst) (cN pos (bR Vp c.env))=ks.map (·.1) from hk.2.1]
 exact ab (hc a Uk (.ref a::vs) us ⟨Us,hm _ _ _ Ul (mN k13)⟩ Us.liveAll (mR.cons pi (Ur.keep (mN Um))) Ut) (λz z uu=>eA uu λUH Wz=>⟨mO Uc (mO k13 UH),Wz⟩) λz z e=>e
theorem Ri (G:Gd w n c)
  (ho:tO prog w (fs c σ Λ) o H) (hH: ∀h a,H h a-> ∃d D,oX h a d D) (hm: ∀h h' a,H h a->m4 h h'->H h' a)
  (hf:iV (KB w.params) (.ref 293) name=aa (aa (.ref f))) (Wh:(KB w.params).lookup f=aa ⟨oc,od,.func fd,sl⟩) (hn:(name==("_headers":Str))=false) (VK:me (KB w.params) (.ref f)=aa (.type "function"))
  (hc: ∀a,Ir prog w c.A c.X (λh=>In c σ Λ h/\H h a) (.ref f) [.raw (.ref a)] [] q)
  (V5:autoParam (bJ (.Call (.Attribute o name apos) [] [] pos) c.env=(do
   let ov <-bJ o c.env
   iv apos.atName
   let (f,first) <-gW [ov] (hZ ov name pl)
   gJ pos f first (fb pos (aE [] c.env)) (cN pos (bR [] c.env)))) X1):
  Ev prog w (fs c σ Λ) (.Call (.Attribute o name apos) [] [] pos) q:=.mk λs i=>by
 refine jx (ab (ho.run s i) (λv Ua uu=>o8 uu λUc a ea Ul=> ?_) λz z e=>e) V5
 subst ea
 have Uj:=i.mono (mN Uc)
 refine rU (hH _ _ Ul) λd D t=> ?_
 refine tL (vQ t) λW1 I e1 e2=> ?_
 refine lS (G.inBase _ Uj).frag I (BX _) (DR _) hf VK (by show (gp name W1).map _=_;rw [e2 _ hn];rfl) ?_
 refine nQ (wx ⟨rE ((G.inBase _ Uj).frag _ _ Wh) rfl,?_⟩)
 exact ab (hc a Ua [.ref a] [] ⟨Uj,Ul⟩ Uj.liveAll (mR.cons pi mR.nil) mR.nil) (λz z uu=>eA uu λUH Wz=>⟨mO Uc UH,Wz⟩) λz z e=>e
def uX (w:au) (n:Nat) (f:aF) (H:List aF->aW->aF->Prop) (ps:List PV) (ks:List (Str×PV)) (q:PV):Prop:=
 ∀(A:aX) (X:List aF) (I:aW->Prop) (a:aF),pG n A->(∀h,I h->ox w.params h)->sY w.params X->(∀h,I h->H X h a)->Ir mJ w A X I (.ref f) (.raw (.ref a)::ps) ks q
theorem tx (ns:List Str) (dvs:List ay) (T:qW w.params f fd body) (hds: ∀X h,mR X h ds dvs)
  (Uv: ∀(s:aq) (x:ay) (vs us:List ay),ox w.params s.heap->vs.length=ps.length->us.length=ks.length->mi s fd ⟨x::vs,(ks.map (·.1)).zip us⟩ (ns.zip (x::vs++us++dvs)))
  (h: ∀A X g L a,oj X g->H X g a->Gd w n (m5 fd f A X [] g L)->mZ mJ w (bf fd L f) (A.deeper (bf fd L f)) (In (m5 fd f A X [] g L) (qr ns (.raw (.ref a)::ps++ks.map (·.2)++ds)) []) body (uD g X p)) (F:autoParam (KF fd ns=ai) XX):uX w (n+1) f H ps ks p:=by
 have F:=wh F
 intro A X I a hr hI hO hH
 refine EJ (qs:=.raw (.ref a)::ps++ks.map (·.2)++ds) ns (λh i=>(hI h i).defAt T) hr.lim (λs vs us i r r'=> ?_) F λg L i lx=> ?_
 ·have hl:=r.len
  cases vs with
  |nil=>simp at hl
  |cons x vs=>exact Uv s x vs us (hI _ i) (by simpa using hl) (by rw [r'.len,ah]) _ _ _ _ ⟨mU _,_,rfl,(r.append r').append (hds _ _)⟩
 ·exact h A X g L a lx (hH g i) ⟨hI g i,hO,hr.deeper _,F.kind,F.gl,F.bl⟩
end
end
section
open PySem.Calls PyProof.Rows PySem.Builtin.Str
section
variable {prog:aG} {w:au} {A:aX} {X:List aF} {I:aW->Prop}
theorem Ja:tY prog w A X .none false:=λs v r=>by
 subst r
 exact truthy_none ⟨mU _,rfl⟩
theorem De {a b:ay} (h:plainIs a b=ai):og prog w A X (bP .Is) (.raw a) (.raw b) (.bool (a==b)):=λs x y z r q=>by
 subst r;subst q
 exact wpAny_is_plain h ⟨mU _,uI⟩
theorem FP {a b:ay} (h:plainIs a b=ai):og prog w A X (bP .IsNot) (.raw a) (.raw b) (.bool (!(a==b))):=λs x y z r q=>by
 subst r;subst q
 exact wpAny_isNot_plain h ⟨mU _,uI⟩
theorem vq (h: ∀h v,mV X h p v->plainIs v .none=ai/\v≠ .none):og prog w A X (bP .IsNot) p .none (.bool ai):=λs x y z r q=>by
 subst q
 obtain ⟨h1,h2⟩:=h _ _ r
 exact wpAny_isNot_other h1 h2 ⟨mU _,uI⟩
theorem zh:pZ prog w A X I (.type "type") [.str x] (.raw (.type "str")):=λs vs z z r=>by
 refine mX (qQ r) λv Ub r1=> ?_;obtain rfl:=Ub;obtain ⟨t,rfl⟩:=nG r1
 exact call_type_of (dR _ _ _) (by decide) ⟨mU _,pi⟩
theorem wW {code:Array Nat} (hI: ∀h,I h->rK h a code/\ ∃o,h.get? a=aa o/\o.cls= .type "re.Pattern") (hT:T.length<=1000) (h:yo (bk code T.toArray 0 0 T.toArray.size false)):
  pZ prog w A X I (.builtin "re.Pattern.search") [.raw (.ref a),.str (S T)] .none:=λs vs i lx r=>by
 refine nu (sW r) λv u Ub r1 r2=> ?_;obtain rfl:=Ub
 subst r1
 obtain ⟨t,rfl⟩:=nG r2
 exact Gm (hI _ i).1 (by simp;exact (mK (.i (.l xA xQ) (.l xA (.c 100000))) [_]) hT) (hI _ i).2 h ⟨mU _,Ca⟩
theorem pV (hz:ps.length+qs.length<=bo):og prog w A X (cf .Add) (.list ps) (.list qs) (.list (ps++qs)):=λs x y lx r q=>by
 refine nw (pL r) λl vs Ub z hl hr=> ?_;obtain rfl:=Ub
 refine nw (pL q) λb ws Ub z hb hq=> ?_;obtain rfl:=Ub
 have hsz:vs.length+ws.length<=bo:=by rw [hr.len,hq.len];exact hz
 obtain ⟨⟨cls,dd,data,sl⟩,ho,hc,n,hd⟩:=id hl
 obtain ⟨⟨cls2,dd2,data2,sl2⟩,ho2,hc2,n2,hd2⟩:=id hb
 simp only at hc hd hc2 hd2
 subst hc hd hc2 hd2
 have e:vs.toArray++ws.toArray=(vs++ws).toArray:=by simp
 refine concat_meets ⟨_,ho,rfl⟩ ⟨_,ho2,rfl⟩ noFill_list_add seq_list_add PySem.F.slot_list_add PySem.F.entry_list_add (PySem.F.args_list_add_2 _ _) (list_addW l b vs.toArray ws.toArray n n2 dd dd2 sl sl2 (by simpa using hsz)) ⟨ho,ho2,?_⟩
 rw [e]
 exact uQ lx (hr.append hq)
theorem C7 {α:Type} (xs:Array α): ∀(n:Nat) (UD:Array α),(List.foldl (λx1 x2=>x1++x2) UD (aH n xs)).toList=UD.toList++(aH n xs.toList).flatten
 |0,UD=>by simp
 |n+1,UD=>by
  rw [cq,eY,C7 xs n,cq,cu]
  simp
theorem Dy (r:mR X h ps vs): ∀n,mR X h (aH n ps).flatten (aH n vs).flatten
 |0=>mR.nil
 |n+1=>by rw [cq,cq,cu,cu];exact r.append (Dy r n)
end
section
variable {prog:aG} {w:au} {φ:Fs}
theorem u9 (hs:tS prog w φ lp es ps) (he:Ev prog w φ e (.int k)) (hz:ps.length<=1000) (hn:ps≠[]) (hk: -(2^63:Int)<=k) (XR:k<=10000):
  Ev prog w φ (.BinOp (.List es lp) .Mult e pos) (.list (aH k.toNat ps).flatten):=.mk λs i=>by
 have VE:=aw
 refine j8 (jD (ab (hs.run s i) (λvs Ua uu=>eA uu λUc Uf=>⟨by rw [Uf.len];exact (mK (.i (.l xA xQ) (.i (.e xB xL) (.l xA xB))) [_,_]) hz VE,?_⟩) λz z e=>e))
 have kp:=m9 Ua {cls:=.type "list",data:=.seq vs.toArray} Ua.toks
 have Uj:=φ.mono' i (mO Uc kp)
 refine ab (he.run _ Uj) (λb Ud uu=>eA uu λUe Ur=> ?_) λz z e=>e
 refine eE (tz Ur) λu Ub=> ?_;obtain rfl:=Ub
 have ho:Ud.heap.get? Ua.heap.objs.size=aa {cls:=.type "list",dict:=az,data:=.seq vs.toArray 0,slots:= #[]}:=mN Ue _ _ (av _ rfl)
 have V4:=mO Uc (mO kp Ue)
 have r₁':mR φ.X Ud.heap ps vs:=Uf.keep (mN (mO kp Ue))
 have lx:=φ.live _ (φ.mono' i V4)
 have VA:vs.toArray.size*k.toNat<=2^24:=by
  rw [bq,Uf.len]
  have:ps.length*k.toNat<=1000*10000:=gr hz (by exact (mK (.i (.L xA (.c 10000)) (.l (.t xA) (.c 10000))) [] [_]) XR)
  exact (mK (.i (.l xA (.m 1000 (.c 10000))) (.l xA xL)) [_]) this
 refine wpAny_binaryOp_repeat_ref (T:="list") (U:="int") (by decide) ⟨_,ho,rfl⟩ (λs'=>typeIs_int s' k u) noFill_list_mul F.fills_int_mul F.slot_int_rmul repeat_list F.slot_int_index.lookup
  (gM F.slot_int_rmul (typeIs_int Ud k u) F.entry_int_rmul (F.args_int_rmul_2 _ _) (int___rmul___int_list k u _ vs.toArray 0)
   ⟨ho,rfl,⟨_,ho,rfl⟩,gM F.slot_list_mul ⟨_,ho,rfl⟩ F.entry_list_mul (F.args_list_mul_2 _ _)
    (AutoListH.list___mul___list_int_3 _ vs.toArray 0 k u (by simp [Builtin.List.listFitsIndex];exact (mK (.i (.L (.g xS) xA) (.i (.L xA (.c 10000)) (.a (.L (.g xS) xA) (.B xA xS)))) [] [_]) hk XR) (by exact (mK (.i (.l xA xL) (.n (.b (.d (.s xS xI) 8) xA))) [_]) VA) (by simp [Builtin.List.listTooLong,bo];omega))
    ⟨ho,?_⟩⟩)
 have Uu:vs.toArray.isEmpty=false:=by
  cases vs with
  |nil=>have:=Uf.len;cases ps with|nil=>exact absurd rfl hn|cons=>simp at this
  |cons=>rfl
 rw [Uu]
 have e:(List.foldl (λx1 x2=>x1++x2) #[] (aH (if false=ai then 0 else k.toNat) vs.toArray))=(aH k.toNat vs).flatten.toArray:=by
  apply dO.mp
  rw [C7]
  simp
 rw [e]
 have:=uQ (s:=Ud) (tk:=Ud.toks) lx (Dy r₁' k.toNat)
 exact ⟨mO V4 this.1,this.2⟩
end
section
variable {prog:aG} {w:au} {A:aX} {E:ay->aq->Prop} {s:aq} {env:Env}
theorem vt {T id:String} {Q:ay->aq->Prop}
  (hl:fu (.type T) "__getitem__"=bG (aa (.builtin id)))
  (h:aC (aI prog w) A (bJ value env) (λo Ua=>aC (aI prog w) A (bJ (.Slice lower upper az p) env) (λi Ud=>Ud.TypeIs o T/\aC (aI prog w) A (getItem o i) Q E Ud) E Ua) E s):
  aC (aI prog w) A (bJ (.Subscript value (.Slice lower upper az p) pos) env) Q E s:=by
 rw [eval_Subscript]
 refine ae (ab h (λo Ua Ul=>ae (bL (ab Ul (λi Ud UE=>ae (eD ?_)) λz z x=>x)))
  λz z x=>x)
 have qx:aC (aI prog w) A (operate [i,o] (getItem o i)) (λr Uk=>aC (aI prog w) A (i8 value o r >>= λz=>bG r) Q E Uk) E Ud:=
  wpAny_operating (ab UE.2 (λr Uk Uy=>ae (wpAny_letTemporaryGo (aj Uy))) λz z x=>x)
 first
  |(refine ae ?_
    rw [getitemInPython_of_ne UE.1.not_modules]
    refine ae (fh UE.1 hl ?_)
    first
     |exact aj (ae qx)
     |exact ae (aj (ae qx))
     |exact ae qx)
  |(refine ae (fh UE.1 hl ?_)
    first
     |exact ae (aj (ae qx))
     |exact ae qx)
theorem DK {Q:ay->aq->Prop}
  (h:aC (aI prog w) A (bJ value env) (λo Ua=>aC (aI prog w) A (evalPart lower env) (λvl Ud=>aC (aI prog w) A (evalPart upper env) (λvu Uk=>
   ∃x t l u,o= .str x t/\vl=cL l/\vu=cL u/\
    (sliceMade x t l u az).post Q {Uk with heap:=Uk.heap.push {cls:=.type "slice",data:=.fields #[vl,vu,.none]}}) E Ud) E Ua) E s):
  aC (aI prog w) A (bJ (.Subscript value (.Slice lower upper az p) pos) env) Q E s:=by
 refine vt (T:="str") F.slot_str_getitem.lookup (ab h (λo Ua Ul=>j7 (ab Ul (λvl Ud UE=>ab UE (λvu Uk Uy=> ?_) λz z e=>e) λz z e=>e)) λz z e=>e)
 refine EK Uy ?_;clear Uy;intro x t l u Ub q2z q3z hQ;obtain rfl:=Ub;obtain rfl:=q2z;obtain rfl:=q3z
 rw [lD]
 exact aj ⟨dR _ x t,wpAny_getItem_str_slice (l:=l) (u:=u) (st:=az) ⟨_,av _ rfl,rfl,rfl⟩ rfl hQ⟩
end
section
variable {prog:aG} {w:au} {φ:Fs} {A:aX} {X:List aF} {I:aW->Prop}
theorem tX {lo hi:Option Int} (hv:Ev prog w φ value (.str (S l))) (hl:yP prog w φ lower lo) (hu:yP prog w φ upper hi)
  (hsz:l.length<=bo):Ev prog w φ (.Subscript value (.Slice lower upper az p) pos) (.str (S (ri l lo hi))):=.mk λs i=>by
 refine DK (ab (hv.run s i) (λv Ua uu=>eA uu λUc Uf=>ab (hl.run Ua (φ.mono' i Uc)) (λvl Ud uu=>o8 uu λUe lt e2 Wd=>ab (hu.run Ud (φ.mono' i (mO Uc Ue))) (λvu Uk uu=>o8 uu λUm ut e3 Xi=> ?_) λz z e=>e) λz z e=>e) λz z e=>e)
 refine eE (nG Uf) λt Ub=> ?_;obtain rfl:=Ub
 have kk:=mO Uc (mO Ue Um)
 refine ⟨S l,t,lt,ut,rfl,e2,e3,?_⟩
 refine post_val_or_str ⟨ch (Txt.slice_le (S l) _ _) (by rw [m6];exact hsz),λt' k=> ?_⟩
 have e:Txt.slice (S l) (lt.map (·.1)) (ut.map (·.1))=S (ri l lo hi):=by rw [Wd,Xi,C1]
 refine ⟨mO kk (m9 _ _ k),?_⟩
 show mV _ _ (.str (S (ri l lo hi))) (.str (Txt.slice (S l) (lt.map (·.1)) (ut.map (·.1))) t')
 rw [e];exact ou
theorem tD {lo hi:Option Int} (hv:Ev prog w φ value (.list ps)) (hl:yP prog w φ lower lo) (hu:yP prog w φ upper hi)
  (hsz:ps.length<=bo):Ev prog w φ (.Subscript value (.Slice lower upper az p) pos) (.list (ri ps lo hi)):=.mk λs i=>by
 refine vt (T:="list") fP.lookup (ab (hv.run s i) (λv Ua uu=>eA uu λUc Uf=>j7 (ab (hl.run Ua (φ.mono' i Uc)) (λvl Ud uu=>o8 uu λUe lt e2 Wd=>ab (hu.run Ud (φ.mono' i (mO Uc Ue))) (λvu Uk uu=>o8 uu λUm ut e3 Xi=> ?_) λz z e=>e) λz z e=>e)) λz z e=>e)
 subst e2 e3
 rw [lD]
 refine aj ?_
 refine nw (pL Uf) λa vs Ub ha Wg hr=> ?_;obtain rfl:=Ub
 have kk:=mO Uc (mO Ue Um)
 have UH:=mO (mO Ue Um) (m9 Uk {cls:=.type "slice",data:=.fields #[cL lt,cL ut,.none]} Uk.toks)
 have hl4:=Wg.at λo e=>mN UH _ _ e
 refine ⟨hl4.typeIs,?_⟩
 refine g8 hl4 (gR _ _ _ _) (xh Wd) (xh Xi) .none (by decide) ?_ (by rw [bq,hr.len];exact hsz)
 have lx:=φ.live _ (φ.mono' i (mO kk (m9 Uk {cls:=.type "slice",data:=.fields #[cL lt,cL ut,.none]} Uk.toks)))
 rw [yG]
 have:=uQ (s:={Uk with heap:=Uk.heap.push {cls:=.type "slice",data:=.fields #[cL lt,cL ut,.none]}}) (tk:=Uk.toks) lx ((mR.keep (mN UH) hr).cut lo hi)
 exact ⟨mO Uc (mO UH this.1),this.2⟩
end
section
variable {prog:aG} {w:au} {c:Sc} {σ:m7} {Λ:List (aF×List PV)}
theorem In.groundX (i:In c σ Λ h): ∀b,b∈c.X->(∃o,c.g.get? b=aa o)->b∈c.X0:=λb hb uu=>eE uu λo e=>by
 rcases ar.mp hb with q|q
 ·have:=i.fresh b q;rw [this] at e;exact nE e
 ·exact q
theorem ug (he:Ev prog w (fs c σ Λ) iter (.raw (.ref a))) (hl:c.g.IsList a vs.toArray) (hr:mR c.X0 c.g ps vs) (hh:c.A.handled=az)
  (ht:(∃x px,Uh= .Name x px)\/((∃Vu k pos,Uh= .Tuple Vu k pos)/\ ∀p∈ps,∃l,p= .tup l)) (ho: ∀b∈own,b∈c.own):uF prog w c σ Λ own Uh iter ps:=.mk λs i=>by
 refine ab (he.run s i) (λx Ua uu=>eA uu λUc Uf=> ?_) λz z e=>e
 subst Uf
 have Uj:=i.mono (mN Uc)
 have hn:a∉own:=λq=>by
  obtain ⟨o,e,_⟩:=hl
  have:=i.fresh a (ho a q)
  rw [this] at e;exact nE e
 have hl:Ua.heap.IsList a vs.toArray:=hl.at λo e=>Uj.keep _ _ e
 have hr:mR c.X Ua.heap ps vs:=(hr.sub (i.groundX)).keep Uj.keep
 have hoX: ∀b∈own,b∈c.X:=λb hb=>ax _ (ho b hb)
 refine mX (id hl) λo e1 e2=> ?_
 have ne:a≠Ua.heap.objs.size:=dj (aR e1)
 have Ue:=m9 Ua {cls:=.type "list_iterator",data:=.fields #[.ref a,.int 0 0]} Ua.toks
 have ga:(hideAll Ua.heap own).get? a=aa o:=bS _ e1 hn
 refine wpAny_pyIter_list hl ⟨Ua,_,[Ua.heap.objs.size],_,rfl,t9 (Walks.list hh Ua.heap.objs.size a ne vs.toArray) (λz h=>h) (λb hb=> ?_) (λb hb=> ?_) (λi h st b hb=> ?_) ?_ (λj p v h Y e1 e2 k hY=> ?_) (λj p v s Q E hj hv st q=> ?_),⟨⟨⟨_,av _ rfl,rfl,rfl⟩,hl.at λo e=>mN Ue _ _ e⟩,?_⟩,Uc,Ue,λb hb=> ?_⟩
 ·simp at hb
  rcases hb with rfl|rfl
  ·exact .inl (.head _)
  ·exact .inr ⟨o,ga⟩
 ·rw [ak.mp hb];exact pw (nM _)
 ·rw [ak.mp hb];exact qS st.1
 ·rw [bq,hr.len]
 ·exact mV.keep k ((hr.get' e1 e2 |>.keepX (sD hoX)).sub hY)
 ·rcases ht with ⟨x,px,rfl⟩|⟨⟨Vu,ek,pos,rfl⟩,hp⟩
  ·exact bD (rfl:cT (.Name x px) _ v=bG ()) q
  ·refine eE (hp p (bu hj)) λl Ub=> ?_;obtain rfl:=Ub
   have:=hr.get' hj hv
   refine o6 this ?_;clear this;intro T _ Ub _;obtain rfl:=Ub
   exact jY st.1 q
 ·exact λb o e=>mN Ue _ _ (bU _ e)
 ·rw [ak.mp hb];exact nM _
theorem Mt (hv:Ev prog w (fs c σ Λ) value (.raw (.ref a))) (hl:c.g.IsList a vs.toArray) (hr:mR c.X0 c.g ps vs)
  (hsz:ps.length<=bo):Ev prog w (fs c σ Λ) (.Subscript value (.Slice az az az p) pos) (.list ps):=.mk λs i=>by
 refine vt (T:="list") fP.lookup (ab (hv.run s i) (λv Ua uu=>eA uu λUc Uf=>j7 ?_) λz z e=>e)
 subst Uf
 have Uj:=i.mono (mN Uc)
 have Wg:=hl.at λo e=>Uj.keep _ _ e
 have WK:mR c.X Ua.heap ps vs:=(hr.sub (i.groundX)).keep Uj.keep
 rw [lD]
 refine aj (aj (aj ?_))
 have UH:=m9 Ua {cls:=.type "slice",data:=.fields #[.none,.none,.none]} Ua.toks
 have hl4:=Wg.at λo e=>mN UH _ _ e
 refine ⟨hl4.typeIs,?_⟩
 refine g8 hl4 (gR _ _ _ _) .none .none .none (by decide) ?_ (by rw [bq,WK.len];exact hsz)
 have lx:=(Uj.mono (mN UH)).liveAll
 rw [yG,PJ]
 have:=uQ (s:={Ua with heap:=Ua.heap.push {cls:=.type "slice",data:=.fields #[.none,.none,.none]}}) (tk:=Ua.toks) lx (WK.keep (mN UH))
 exact ⟨mO Uc (mO UH this.1),this.2⟩
end
end
section
open PySem.Calls PyProof.Rows PySem.Builtin.Str
abbrev HP:=List (List Nat×List Nat)
def hp (l:HP):List PV:=l.map λq=>.tup [.str (S q.1),.str (S q.2)]
def sn (l:HP) (X:List aF) (h:aW) (a:aF):Prop:=ur X h a (hp l)
theorem sn.at' (t:sn l X h a): ∃d D,oX h a d D:=let ⟨d,D,_,x,_⟩:=t;⟨d,D,x⟩
section
variable {w:au} {c:Sc} {σ:m7} {Λ:List (aF×List PV)}
theorem BK (he:Ev mJ w (fs c σ Λ) o (.raw (.ref a))) (hH:sn l c.X0 c.g a):tO mJ w (fs c σ Λ) o (sn l c.X):=.mk λs i=>
 ab (he.run s i) (λv Ua uu=>eA uu λUc Uf=>by
  subst Uf
  have Uj:=i.mono (mN Uc)
  exact ⟨Uc,a,rfl,ur.keep (ur.sub hH Uj.groundX) Uj.keep⟩) λz z e=>e
theorem tI (he:Ev mJ w (fs c σ Λ) o (.hdr (hp l))):tO mJ w (fs c σ Λ) o (sn l c.X):=.mk λs i=>
 ab (he.run s i) (λv Ua uu=>eA uu λUc Uf=>by
  refine z7 Uf ?_;clear Uf;intro a d L vs Ub _ _ _ t tl r;obtain rfl:=Ub
  exact ⟨Uc,a,rfl,d,L,vs,t,tl,r⟩) λz z e=>e
theorem sM (he:Ev mJ w (fs c σ Λ) o (.inst D)) (hD:(D,hp l)∈Λ):tO mJ w (fs c σ Λ) o (sn l c.X):=.mk λs i=>
 ab (he.run s i) (λv Ua uu=>eA uu λUc Uf=>by
  refine nw Uf ?_;clear Uf;intro a d Ub _ _ t;obtain rfl:=Ub
  obtain ⟨_,vs,⟨n,pl⟩,rs⟩:=(i.mono (mN Uc)).lists _ hD
  exact ⟨Uc,a,rfl,d,D,vs,t,⟨_,pl,rfl,_,rfl⟩,rs⟩) λz z e=>e
theorem B7 (G:Gd w n c)
  (ho:tO mJ w (fs c σ Λ) o (sn l c.X)) (hs:uX w n f (sn l) ps ks q)
  (hf:iV (KB w.params) (.ref 293) name=aa (aa (.ref f))) (Wh:(KB w.params).lookup f=aa ⟨oc,od,.func fd,sl⟩) (hn:(name==("_headers":Str))=false) (VK:me (KB w.params) (.ref f)=aa (.type "function"))
  (ha:tS mJ w (fs c σ Λ) pos (e::es) ps) (hk:EN mJ w (fs c σ Λ) pos Vp ks)
  (V5:autoParam (bJ (.Call (.Attribute o name apos) (e::es) Vp pos) c.env=(do
   let ov <-bJ o c.env
   iv apos.atName
   let (f,first) <-gW [ov] (hZ ov name pl)
   gJ pos f first (fb pos (aE (e::es) c.env)) (cN pos (bR Vp c.env)))) X1)
  (he:autoParam (aE (e::es) c.env=(false,bJ e c.env)::aE es c.env) X1):
  Ev mJ w (fs c σ Λ) (.Call (.Attribute o name apos) (e::es) Vp pos) q:=.mk λs i=>
 (NE G ho (λz z t=>sn.at' t) (λz z z t k=>ur.keep t k) hf Wh hn VK ha hk (λa=>hs c.A c.X _ a G.room (λh i=>G.inBase h i.1) (G.offX i) (λh i=>i.2)) V5 he).run s i
theorem xk (G:Gd w n c)
  (ho:tO mJ w (fs c σ Λ) o (sn l c.X)) (hs:uX w n f (sn l) [] [] q)
  (hf:iV (KB w.params) (.ref 293) name=aa (aa (.ref f))) (Wh:(KB w.params).lookup f=aa ⟨oc,od,.func fd,sl⟩) (hn:(name==("_headers":Str))=false) (VK:me (KB w.params) (.ref f)=aa (.type "function"))
  (V5:autoParam (bJ (.Call (.Attribute o name apos) [] [] pos) c.env=(do
   let ov <-bJ o c.env
   iv apos.atName
   let (f,first) <-gW [ov] (hZ ov name pl)
   gJ pos f first (fb pos (aE [] c.env)) (cN pos (bR [] c.env)))) X1):
  Ev mJ w (fs c σ Λ) (.Call (.Attribute o name apos) [] [] pos) q:=.mk λs i=>
 (Ri G ho (λz z t=>sn.at' t) (λz z z t k=>ur.keep t k) hf Wh hn VK (λa=>hs c.A c.X _ a G.room (λh i=>G.inBase h i.1) (G.offX i) (λh i=>i.2)) V5).run s i
theorem Bq (h:σ.lookup x=aa p) (hk:c.env.kindOf x=az):mZ prog w c.env c.A (In c σ Λ) b J:=.mk λs i=>by
 rcases i.kinds x p h with q|q|q
 ·rw [hk] at q;exact nE q
 ·rw [hk] at q;exact nE q
 ·rw [hk] at q;exact nE q.1
theorem Lu {J:gV->aW->Prop} (he:Ev prog w (fs c σ Λ) e p) (hg:m4 g c.g) (hY: ∀a∈Y,a∈c.X):
  mZ prog w c.env c.A (In c σ Λ) (.Return (aa e) pos::b) (λfl h=>((fl= .next\/fl= .cont)/\J fl h)\/((∃v,fl= .ret v)/\uD g Y p fl h)):=tj (GM he hg hY) (λz h=>h) λz z h=>.inr h
end
theorem t4: ∀(names:List (Str×kG)) (n:Nat) (z:Str×aF),z∈bv n names []->n<=z.2
 |[],n,z,h=>by cases h
 |(x,k)::r,n,z,h=>by
  unfold bv at h
  split at h
  ·rw [qq] at h
   rcases ar.mp h with q|q
   ·exact Nat.le_of_succ_le (t4 r (n+1) z q)
   ·exact (ak.mp q)▸(aN _)
  ·exact t4 r n z h
theorem tZ: ∀(names:List (Str×kG)) (n:Nat) (x y:Str) (a:aF),(x,a)∈bv n names []->(y,a)∈bv n names []->x=y
 |[],n,x,y,a,h,_=>by cases h
 |(v,k)::r,n,x,y,a,h,h'=>by
  unfold bv at h h'
  split at h
  ·rename_i hk
   rw [if_pos hk] at h'
   rw [qq] at h h'
   rcases ar.mp h with q|q
   ·rcases ar.mp h' with q'|q'
    ·exact tZ r (n+1) x y a q q'
    ·have e:=ak.mp q'
     have:=t4 r (n+1) _ q
     cases e
     exact absurd this (lJ _)
   ·have e:=ak.mp q
    cases e
    rcases ar.mp h' with q'|q'
    ·have:=t4 r (n+1) _ q'
     exact absurd this (lJ _)
    ·cases ak.mp q';rfl
  ·rename_i hk
   rw [if_neg hk] at h'
   exact tZ r n x y a h h'
theorem vi (hc:fd.closure=[]) (hk:fd.scope.names.lookup x=aa .cell) (hb:(bv (L+1) fd.scope.names []).lookup x=aa b):oi (m5 fd a A X M g L) x b where
 kind:=hk
 at':=hb
 own:=.tail _ (ax _ (pI.mpr ⟨x,hb⟩))
 only:=λy e=>by
  have e:(bv (L+1) fd.scope.names []).lookup y=aa b:=e
  exact tZ _ _ _ _ _ (mem_of_lookup e) (mem_of_lookup hb)
theorem oi.of (h:oi c x a) (he:c'.env=c.env) (ho: ∀b∈c.own,b∈c'.own):oi c' x a:=⟨he▸h.kind,he▸h.at',ho _ h.own,λy e=>h.only y (he▸e)⟩
end
section
open PySem.Calls PyProof.Rows PySem.Builtin.Str PySem.Builtin PySem.Builtin.ObjectAttr
theorem M4 (P:aQ):plainOver (KB P) 293=ai:=by kernel_rfl
theorem Mp (P:aQ):takerIn (KB P) 293 "_headers"=aa az:=by kernel_rfl
theorem R8 (P:aQ):iV (KB P) (.ref 293) "__setattr__"=aa (aa (.builtin "object.__setattr__")):=by kernel_rfl
noncomputable def uf (h:Int) (t:Tok) (v:ay):Obj:={cls:=.type "dict",data:=.dict #[⟨h,.str "_headers" t,v⟩] 1}
theorem Hl (h:Int) (t:Tok) (v:ay):Obj.putName "_headers" h (.str "_headers" t) v cA=uf h t v:=by
 rw [Obj.putName_eq]
 unfold Obj.putNameByArray uf cA
 dsimp only
 rw [Array.findIdx?_empty]
 rfl
theorem Ls (h:Int) (t:Tok) (v:ay):gp "_headers" (uf h t v)=aa (aa v):=by
 unfold gp uf
 dsimp only
 rw [List.find?_cons_of_pos (p:=λx:jg=>x.key.isStr (aS "_headers")) (l:=[]) (a:=⟨h,.str "_headers" t,v⟩) (show (aS "_headers"==aS "_headers")=ai by decide+kernel)]
theorem KS (h:Int) (t:Tok) (v:ay) (n:Str) (hn:(n==("_headers":Str))=false):gp n (uf h t v)=aa az:=by
 have e:(ay.str "_headers" t).isStr n=false:=by
  show ((aS "_headers")==n)=false
  rw [beq_eq_false_iff_ne] at hn ⊢
  exact λq=>hn q.symm
 unfold gp uf
 dsimp only
 rw [List.find?_cons_of_neg (by rw [e];exact dz),List.find?_nil]
 rfl
section
variable {prog:aG} {w:au} {A:aX} {E:ay->aq->Prop} {s:aq}
theorem Gh {Q:Unit->aq->Prop} (X:(KB w.params).In s.heap) (hx:s.heap.get? x=aa (gd 293 dx)) (hd:s.heap.get? dx=aa cA)
  (h: ∀h' tk t,cM dx s.heap h'->h'.get? dx=aa (uf (g9 w.params "_headers") t v)->Q () {s with heap:=h',toks:=tk}):aC (aI prog w) A (setAttr (.ref x) "_headers" v) Q E s:=by
 obtain ⟨hp,g,d,tk0,os⟩:=s
 have I: ∀tk,InstAt (⟨hp,g,d,tk,os⟩:aq).heap x (gd 293 dx) 293 (aa cA):=λz=>⟨hx,rfl,rfl,hd⟩
 refine set_plain X (I tk0) (R8 _) ?_
 refine osa_open (s:=⟨hp,g,d,tk0+1,os⟩) X (I (tk0+1)) (M4 _) (Mp _) λb=> ?_
 refine mX (any_some (GZ w.params)) λcd hc hd'=> ?_
 refine ae (aj (ae (ae (kK hx (ae ((looks_clsIn X hc).at ?_))))))
 rw [hd']
 refine aj (a:=aa dx) (ae (aj (ae ?_)))
 refine ae (ae (wpAny_askSetting (aj (ae (wpAny_mkText (ae (kK hd ?_)))))))
 dsimp only
 rw [aRefKeyMayBeTheName_at]
 refine g4 (by simp) ?_
 refine wpAny_updatePart hd ?_
 have Xd:(hp.update dx (Obj.putName "_headers" (g9 w.params "_headers") (.str "_headers" (tk0+1)) v)).get? dx=aa (uf (g9 w.params "_headers") (tk0+1) v):=by
  rw [cr _ hd (by rw [Hl];rfl),Hl]
 refine ae (wpAny_lookBehind Xd (pastItsLine_dict (by rw [aw];simp)) ?_)
 exact aj (h _ _ _ (ef ..) Xd)
end
end
section
open PySem.Calls PyProof.Rows PySem.Builtin.Str
theorem CL:og prog w A X (bP .IsNot) .none .none (.bool false):=λs x y z r q=>by
 subst r;subst q
 exact wpAny_isNot_self rfl ⟨mU _,uI⟩
section
variable {prog:aG} {w:au} {c:Sc} {σ:m7} {Λ:List (aF×List PV)}
theorem In.restore (i:In c σ Λ h) (hX:dx∈c.X0) (hO:dx∉c.own) (nc: ∀o,h.get? dx=aa o-> ∀v,o.data≠ .cell v) (k:oV [dx] h h') (lv: ∃o,h'.get? dx=aa o):In (c.at (hideAll h' c.own)) σ Λ h':=by
 have i0:In (c.at (hideAll h (dx::c.own))) σ Λ h:=i.reg (λb o e=>bU _ e) λa ha=>dK _ (.tail _ ha)
 have i1:=In.turn (is:=[dx]) i0 (λa ha=>by rw [ak.mp ha];exact ⟨hX,hO,dK _ (.head _),nc⟩) k (λa ha=>by rw [ak.mp ha];exact lv)
 exact In.reg (c:=c.at (hideAll h (dx::c.own))) i1 (λb o e=>bU _ e) λa ha=>dK _ ha
theorem E4 (he:Ev prog w (fs c σ Λ) e p) (hb:mZ prog w c.env c.A (In c σ Λ) b J)
  (hi:autoParam (i6 c.env=false) X1) (hs:autoParam (cK e az pos.line c.env=bG false) X1):mZ prog w c.env c.A (In c σ Λ) (.Expr e pos::b) J:=
 qZ (I':=In c σ Λ) (λs i=>fM (ab (he.run s i) (λv Ua uu=>eA uu λUc z=>⟨nK.of Uc,i.mono (mN Uc)⟩) λz z e=>e) hi hs) hb
theorem Gw (G:Gd w n c) (ho:Ev prog w (fs c σ Λ) o (.raw (.ref x))) (he:Ev prog w (fs c σ Λ) e (.raw (.ref D)))
  (hx:c.g.get? x=aa (gd 293 dx)) (hd:c.g.get? dx=aa cA) (hX:dx∈c.X0) (V9:dx≠iZ) (WL:dx≠dh)
  (hb: ∀g',oV [dx] c.g g'->oX g' x dx D->ox w.params g'->mZ prog w (c.at g').env (c.at g').A (In (c.at g') σ Λ) b J)
  (hs:autoParam (cK e (aa (.Attribute o "_headers" ap)) pos.line c.env=bG false) X1):mZ prog w c.env c.A (In c σ Λ) (.Assign [.Attribute o "_headers" ap] e pos::b) J:=.mk λs i=>by
 rw [ci]
 refine ae (plainObj_wpAny_Assign_Attribute (ab (he.run s i) (λv Ua uu=>eA uu λUc Uf=> ?_) λz z e=>e) hs)
 subst Uf
 have Uj:=i.mono (mN Uc)
 refine ab (ho.run Ua Uj) (λv Ud uu=>eA uu λUe Ur=> ?_) λz z e=>e
 subst Ur
 have Ui:=Uj.mono (mN Ue)
 have hx₂:=Ui.keep _ _ hx
 have W3:=Ui.keep _ _ hd
 have hO:dx∉c.own:=λq=>by have:=i.fresh dx q;rw [hd] at this;exact tJ this
 have Uu:x≠dx:=λq=>by rw [q,hd] at hx;cases hx
 refine Gh (G.inBase _ Ui).frag hx₂ W3 λh' tk t XS WB=> ?_
 have kx:oV [dx] Ud.heap h':=λb o nb e=>by rw [XS.2 b (λq=>nb (by rw [q];exact .head _))];exact e
 have Us:=Ui.restore hX hO (λo e v q=>by rw [W3] at e;obtain rfl:=am e;cases q) kx ⟨_,WB⟩
 have kg:oV [dx] c.g (hideAll h' c.own):=λb o nb e=>bS _ (kx b o nb (Ui.keep b o e)) λq=>by have:=i.fresh b q;rw [e] at this;exact tJ this
 have xO:x∉c.own:=λq=>by have:=i.fresh x q;rw [hx] at this;exact tJ this
 have t:oX (hideAll h' c.own) x dx D:=⟨kg x _ (λq=>Uu (ak.mp q)) hx,_,bS _ WB hO,Ls _ _ _,λn hn=>KS _ _ _ n hn⟩
 have off: ∀b∈[dx],(KB w.params).lookup b=az:=λb hb=>by rw [ak.mp hb];exact G.off dx hX
 have base:ox w.params (hideAll h' c.own):=by
  have B:=G.base
  refine ⟨λb o e=>kg b o (λq=>by have:=off b q;rw [e] at this;exact tJ this) (B.frag b o e),?_,?_⟩
  ·exact B.lim.at λo e=>kg _ _ (λq=>V9 (ak.mp q).symm) e
  ·refine mX B.blt λmb n r=> ?_
   exact ⟨mb,n.at' λo e=>kg _ _ (λq=>WL (ak.mp q).symm) e,r⟩
 refine ab ((hb _ kg t base).run {Ud with heap:=h',toks:=tk} Us) (λfl Uk uu=>eA uu λUT j=>⟨((nK.of (mO Uc Ue)).trans (nK.trans ⟨_,_,rfl⟩ UT)),j⟩) λz z e=>e
theorem DP (ht:Tr prog w (fs c σ Λ) t false)
  (hb: ∀D g',m4 c.g g'->c.g.get? D=az->g'.get? D=aa {cls:=.type "list",data:=.seq #[]}->D∉c.X->mZ prog w (c.at g').env (c.at g').A (In (c.at g') ((x,.raw (.ref D))::σ) Λ) b J)
  (hx:autoParam (sG c x) X2) (hk:autoParam (c.env.scope.kind= .function) X1) (hs:autoParam (cK (.IfExp t y (.List [] lp) ip) (aa (.Name x px)) pos.line c.env=bG false) X1):
  mZ prog w c.env c.A (In c σ Λ) (.Assign [.Name x px] (.IfExp t y (.List [] lp) ip) pos::b) J:=.mk λs i=>by
 rw [ci]
 refine ae (cO (wpAny_IfExp (ab (ht.run s i) (λd Ua uu=>eA uu λUc e=> ?_) λz z e=>e)) hs)
 subst e
 refine jD (cG ⟨by decide,?_⟩)
 have Uj:=i.mono (mN Uc)
 have Ue:=m9 Ua {cls:=.type "list",data:=.seq #[]} Ua.toks
 have Ui:=Uj.mono (mN Ue)
 have hn:Ua.heap.objs.size∉c.X:=oY Uj.liveAll
 refine ab (rJ (s:={Ua with heap:=Ua.heap.push {cls:=.type "list",data:=.seq #[]}}) (p:=.raw (.ref Ua.heap.objs.size)) Ui hx pi hk) (λz Uk uu=>rW uu λUT Us kx=> ?_) λz z e=>e
 have hm:(hideAll Uk.heap c.own).get? Ua.heap.objs.size=aa {cls:=.type "list",data:=.seq #[]}:=
  bS _ (kx _ _ (λq=>hn (ax _ q)) (av _ rfl)) λq=>hn (ax _ q)
 have gn:c.g.get? Ua.heap.objs.size=az:=by
  cases e:c.g.get? Ua.heap.objs.size with
  |none=>rfl
  |some o=>have:=Uj.keep _ _ e;rw [nM] at this;exact nE this
 exact ab ((hb _ _ (w0 Us) gn hm hn).run Uk Us.hide) (λfl Uw uu=>eA uu λVD j=>⟨(nK.of Uc).trans ((nK.of Ue).trans (UT.trans VD)),j⟩) λz z e=>e
theorem pG.in1 (r:pG (n+1) A):pG n A.in1:=by
 obtain ⟨a,b,e⟩:=r
 refine ⟨a,?_,?_⟩
 ·exact (mK (.i (.b (.a xA (.a xB xI)) xC) (.b (.a xA xB) xC)) [_,_,_]) b
 ·exact (mK (.i (.b (.a (.a xA (.m 10 (.a xB xI))) xP) xC) (.b (.a (.a (.a xA xI) (.m 10 xB)) xP) xC)) [_,_,_]) e
theorem pG.make (r:pG (n+1) A) (C:aF) (V6:List ay):pG n (A.under (.builtin "type.__call__" ⟨.ref C::V6,[]⟩)):=by
 refine rW r λa b e=> ?_
 refine ⟨a,?_,?_⟩
 ·rw [depth_under_make];exact (mK (.i (.b (.a xA (.a xB xI)) xC) (.b (.a (.a xA xI) xB) xC)) [_,_,_]) b
 ·rw [units_under_make];exact (mK (.i (.b (.a (.a xA (.m 10 (.a xB xI))) xP) xC) (.b (.a (.a (.a xA xI) (.m 10 xB)) xP) xC)) [_,_,_]) e
end
theorem wA {h:aW} (e:h.get? d=aa cA):h.DictAt (strKind prog w) d [] 0:=
 ⟨_,#[],e,⟨rfl,rfl,rfl⟩,rfl,λe he=>by simp at he,.nil,by decide⟩
section
variable {prog:aG} {w:au} {c:Sc} {σ:m7} {Λ:List (aF×List PV)}
theorem Kz (he: ∀s:aq,In c σ Λ s.heap->aC (aI prog w) c.A (bJ iter c.env) (λv s'=>bB s s'/\ ∃vw,v= .ref vw/\s'.heap.IsItemsView vw d) (λz z=>False) s)
  (hd:c.g.get? d=aa cA) (hh:c.A.handled=az) (ho: ∀b∈own,b∈c.own):uF prog w c σ Λ own Uh iter []:=.mk λs i=>by
 refine ab (he s i) (λx Ua uu=>o8 uu λUc vw ex hv=> ?_) λz z e=>e
 subst ex
 have Uj:=i.mono (mN Uc)
 have hd1:=Uj.keep _ _ hd
 have hn:d∉own:=λq=>by have:=i.fresh d (ho d q);rw [hd] at this;exact tJ this
 have ga:(hideAll Ua.heap own).get? d=aa cA:=bS _ hd1 hn
 have one: ∀b∈[Ua.heap.objs.size],b=Ua.heap.objs.size:=λb hb=>ak.mp hb
 refine wpAny_pyIter_items (knd:=strKind prog w) (kvs:=[]) hv (wA hd1) ?_
 have Ue:=m9 Ua {cls:=.type "dict_itemiterator",data:=.fields #[.none,.bool false,.ref d,.int 0 0,.int 0 0,.int 0 0,.none,.none]} Ua.toks
 refine ⟨Ua,Ua.heap.objs.size,[Ua.heap.objs.size],(λi h=>IsItemIter h Ua.heap.objs.size d 0 0 0 .none .none/\m4 (hideAll Ua.heap own) h),rfl,⟨λi p s Y hi=>by simp at hi,λs st=> ?_,λi h h' st k ki=>⟨ki _ (.head _) _ st.1,k⟩,λi h st=>st.2,λi s Q E st q=> ?_,λi h st a ha=> ?_⟩,⟨av _ rfl,λb o e=>mN Ue _ _ (bU _ e)⟩,Uc,Ue,λb hb=> ?_⟩
 ·refine wpAny_pyNext_items_end (knd:=strKind prog w) (kvs:=[]) hh st.1 (wA (st.2 _ _ ga)) rfl λh' hx=>⟨rfl,⟨_,_,rfl⟩,λb o nb e=>hx b o (λq=>nb (by exact q▸(.head _))) e⟩
 ·exact kcp_self st.1 q
 ·exact (one a ha)▸(⟨_,st.1,λv q=>nomatch q⟩)
 ·exact (one b hb)▸(nM _)
theorem L6 (ho:Ev prog w (fs c σ Λ) o (.raw (.ref d))) (hd:c.g.get? d=aa cA) (hs:(d==sysModules)=false)
  (UA:autoParam (db o "items" c.env (bJ o c.env)=bJ o c.env) X1) (UF:autoParam ((apos.endLine==pos.line)=ai) X1):
  ∀s:aq,In c σ Λ s.heap->aC (aI prog w) c.A (bJ (.Call (.Attribute o "items" apos) [] [] pos) c.env) (λv s'=>bB s s'/\ ∃vw,v= .ref vw/\s'.heap.IsItemsView vw d) (λz z=>False) s:=λs i=>
 dN UA rfl UF PySem.F.plainAttrs_dict PySem.F.slot_dict_items PySem.F.type_dict_items (ab (ho.run s i) (λov Ua uu=>eA uu λUc Uf=>by
  subst Uf
  have hd1:=(i.mono (mN Uc)).keep _ _ hd
  refine ⟨⟨_,hd1,rfl⟩,λa e=>by cases e;exact ⟨_,hd1,rfl⟩,nQ (wx ⟨rM,?_⟩)⟩
  exact call_meetsIn PySem.F.slot_dict_items (s:=Ua) ⟨_,hd1,rfl⟩ PySem.F.entry_dict_items (PySem.F.args_dict_items_1 _) (meets_dict_items (strKind prog w) d hs)
   ⟨⟨[],(wA hd1).dictOf⟩,mO Uc (m9 Ua _ Ua.toks),_,rfl,_,av _ rfl,rfl,rfl⟩) λz z e=>e)
theorem In.pushX (i:In c σ ((D,l)::Λ) h) (k:oV [D] h h') (pl: ∃vs,h'.PlainList D vs.toArray/\mR c.X h' l' vs) (Uu: ∀q∈Λ,q.1≠D):In c σ ((D,l')::Λ) h':=by
 refine o8 (i.lists _ (.head _)) λhD vs0 pl0 rs0=> ?_
 refine mX pl λvs VR rs=> ?_
 have k1: ∀b o,b≠D->h.get? b=aa o->h'.get? b=aa o:=λb o nb e=>k b o (λq=>nb (ak.mp q)) e
 have kx:oV c.X h h':=λb o nb e=>k1 b o (λq=>nb (q▸ax _ hD)) e
 have lv: ∀a,(∃o,h.get? a=aa o)-> ∃o,h'.get? a=aa o:=λa uu=>eE uu λo e=>by
  by_cases q:a=D
  ·subst q;obtain ⟨_,e⟩:=VR;exact ⟨_,e⟩
  ·exact ⟨o,k1 a o q e⟩
 refine ⟨λb o e=> ?_,i.fresh,λa ha=>lv a (i.live a ha),λa ha=>lv a (i.liveX a ha),i.locOwn,?_,λy q hk e=> ?_,λy a e=> ?_,i.kinds,λq hq=> ?_⟩
 ·exact k1 b o (λq=>by have:=i.fresh _ hD;rw [<-q,e] at this;exact tJ this) (i.keep _ _ e)
 ·refine mX i.loc λm n hm=> ?_
  exact ⟨m,n.at' λo e=>k1 _ o (sR pl0 n).symm e,λy q hk e=>let ⟨u,e',r'⟩:=hm y q hk e;⟨u,e',r'.keepX kx⟩⟩
 ·obtain ⟨a,u,q1,⟨o,q2,q2'⟩,q3⟩:=i.cel y q hk e
  exact ⟨a,u,q1,⟨o,k1 _ _ (qM pl0 ⟨o,q2,q2'⟩).symm q2,q2'⟩,q3.keepX kx⟩
 ·refine o6 (i.cob y a e) λu o q2 q2'=> ?_
  exact ⟨u,o,k1 _ _ (qM pl0 ⟨o,q2,q2'⟩).symm q2,q2'⟩
 ·rcases ao.mp hq with e|e
  ·subst e;exact ⟨hD,vs,VR,rs⟩
  ·obtain ⟨a,us,⟨n,b⟩,r'⟩:=i.lists q (.tail _ e)
   exact ⟨a,us,⟨n,k1 _ _ (Uu q e) b⟩,r'.keepX kx⟩
theorem Gr (ho:Ev prog w (fs c σ ((D,l)::Λ)) o (.raw (.ref D))) (he:Ev prog w (fs c σ ((D,l)::Λ)) e p) (hsz:l.length<=bo) (Uu: ∀q∈Λ,q.1≠D)
  (hb:mZ prog w c.env c.A (In c σ ((D,l++[p])::Λ)) b J)
  (hi:autoParam (i6 c.env=false) X1) (hs:autoParam (cK (.Call (.Attribute o ("append":Str) apos) [e] [] pos) az Vt.line c.env=bG false) X1)
  (UA:autoParam (db o ("append":Str) c.env (bJ o c.env)=bJ o c.env) X1)
  (U9:autoParam (((fb pos (aE [e] c.env)).all (λx=> !x.1)&&(cN pos (bR [] c.env)).all (λx=>x.1.isSome)
   &&decide ([e].length+([]:List eW).length+(if ([]:List eW).isEmpty then 0 else 1)<30))=ai) X1)
  (UF:autoParam ((apos.endLine==pos.line)=ai) X1) (U1:autoParam (aE [e] c.env=(false,bJ e c.env)::aE [] c.env) X1):
  mZ prog w c.env c.A (In c σ ((D,l)::Λ)) (.Expr (.Call (.Attribute o ("append":Str) apos) [e] [] pos) Vt::b) J:=
 qZ (I':=In c σ ((D,l++[p])::Λ)) (λs i=>by
  refine fM ?_ hi hs
  refine dN (T:="list") UA U9 UF PySem.F.plainAttrs_list PySem.F.slot_list_append PySem.F.type_list_append (ab (ho.run s i) (λv VG uu=>eA uu λUU WV=> ?_) λz z e=>e)
  subst WV
  have Vf:=i.mono (mN UU)
  obtain ⟨hD,vs,⟨n,pl⟩,rs⟩:=Vf.lists _ (.head _)
  refine ⟨⟨_,pl,rfl⟩,λa e=>by cases e;exact ⟨_,pl,rfl⟩,nQ (qv ?_ U1)⟩
  refine cB (ab (he.run VG Vf) (λu Ua uu=>eA uu λUc Uf=>cG ⟨rM,?_⟩) λz z e=>e) U1
  exact ab (C9 (Vf.mono (mN Uc)) Uf Uu hsz) (λz Ud uu=>eA uu λUO Ui=>⟨(nK.of (mO UU Uc)).trans UO,Ui⟩) λz z e=>e) hb
end
section
variable {prog:aG} {w:au} {c:Sc} {σ:m7} {Λ:List (aF×List PV)}
theorem zb (hb: ∀D,c.g.get? D=az->D∉c.X->mZ prog w (c.addOwn D).env (c.addOwn D).A (In (c.addOwn D) ((x,.raw (.ref D))::σ) ((D,[])::Λ)) b J)
  (hx: ∀D,sG (c.addOwn D) x:=by exact λz=>.inl rfl) (hk:autoParam (c.env.scope.kind= .function) X1) (hs:autoParam (cK (.List [] lp) (aa (.Name x px)) pos.line c.env=bG false) X1):
  mZ prog w c.env c.A (In c σ Λ) (.Assign [.Name x px] (.List [] lp) pos::b) J:=w1 hb hx hk hs
theorem E8 (x:Str) (hx:σ.lookup x=aa (.raw (.ref D))) (Uu: ∀q∈Λ,q.1≠D) (hD:D∉c.X) (hb:mZ prog w c.env c.A (In c ((x,.list l)::σ) Λ) b J) (hc:c.env.locals∈c.own:=by exact .head _):mZ prog w (c.addOwn D).env (c.addOwn D).A (In (c.addOwn D) σ ((D,l)::Λ)) b J:=w4 x hx Uu hD hb hc
end
end
local macro_rules | `(tactic| walk_at "kr") => `(tactic| ((fail_if_success (fail_if_success decide +kernel)); kernel_rfl))
local macro_rules | `(tactic| walk_at $s:str) => q0q "lk=BF|Cy ?kr ?lk;op=n6|nU|rA|y8|zq|op_ge_int|qp|op_ne_int|oG|tm|ue|oU|sP|sL;evs=mP|mM ?ev ?evs;ev=mT|xd|sN|wm|nh &ol|nF &lk|mQ &ev &ev &op|r7 &ev &op|vm ?ev ?ev ?op;ol=zn _;tr=m8 ?ev ?ev ?op|vn ?tr" s
local macro_rules | `(tactic| walk_at "sub") => `(tactic| (with_reducible intros))
section
open PySem.Calls PyProof.Rows PySem.Builtin.Str
section
variable {w:au}
theorem C5 {f:Nat->List Nat} {t:Nat->Nat}: ∀l:List Nat,mR X h (l.map λk=>.str (S (f k))) (l.map λk=>.str (S (f k)) (t k))
 |[]=>mR.nil
 |_::l=>mR.cons ou (C5 l)
theorem MO:mR X h ((ag 256).map λk=>.str (S (pC k))) (Ar 256):=C5 _
theorem SS:(KB P).lookup 41=aa Rj:=by kernel_rfl
theorem Jh (hc:c<256):rN mJ w 1 68 [.str (S [c])] (.str (S (pC c))):=by
 refine qL ["c"] (QH _) (λvs e=> ?_) (λA X g L lx G=> ?_)
 ·refine eE (vr e) λz Ub=> ?_;obtain rfl:=Ub;kernel_rfl!
 ·refine nt ?_
  refine nA (p:=.list ((ag 256).map λk=>.str (S (pC k)))) (q:=.int c) ?_ ?_ ?_
  ·exact wB G.base (λh i=>G.offX i) G.gl G.fn (by kernel_rfl) SS ⟨rfl,_,rfl⟩ (λh=>MO)
  ·refine oq G (ps:=[.str (S [c])]) (by kernel_rfl) (by kernel_rfl) ?_ HI
   walk_at "evs"
  ·exact ni (by exact mK (.L xJ (.k xA)) [_]) (by simp [hc]) (by exact (mK (.i (.b xA (.c 256)) (.B (.k xA) xS)) [_]) hc)
end
section
variable {w:au}
def un (T:List Nat):List Nat:=dots ai (po T)
theorem xi (hT:T.length<=400):rN mJ w 1 149 [.str (S T)] (.str (S (un T))):=by
 refine qL ["data"] (Ii _) (λvs e=> ?_) (λA X g L lx G=> ?_)
 ·refine eE (vr e) λz Ub=> ?_;obtain rfl:=Ub;kernel_rfl!
 ·have hl:=L5 _ T (aN _)
  refine nt ?_
  refine ya G (T:="re.Pattern") (ul G (by kernel_rfl)) (show (KB w.params).lookup 137=aa Mu by kernel_rfl) rfl rfl Pat.plainAttrs Pat.slot_sub Pat.type_sub ?_
   (HJ (T:=po T) (repl:=[46,46]) (λh i=>Oj (G.inBase h i)) (by exact (mK (.i (.l xB (.c 400)) (.i (.l xA (.m 2 xB)) (.l xA xQ))) [_,_]) hT hl) (by decide) (by rfl) (Rx _ (by exact (mK (.i (.l xB (.c 400)) (.i (.l xA (.m 2 xB)) (.l xA xQ))) [_,_]) hT hl) _ 0 (aN _) (cx _)))
  refine mM (nh (zn _)) (mM ?_ mP)
  refine ya G (T:="re.Pattern") (ul G (by kernel_rfl)) (show (KB w.params).lookup 142=aa M1 by kernel_rfl) rfl rfl Pat.plainAttrs Pat.slot_sub Pat.type_sub ?_
   (HJ (T:=T) (repl:=[13,10]) (λh i=>OB (G.inBase h i)) (by exact (mK (.i (.l xA (.c 400)) (.l xA xQ)) [_]) hT) (by decide) (by rfl) (PW T _ 0 (aN _) (cx _)))
  refine mM (ui G (v:=.str (S [13,10]) 2045) (by kernel_rfl) λz=>ou) ?_
  walk_at "evs"
theorem FY (ha:a∈pD) (hb:b∈pD):rN mJ w 1 61 [.str (S [c,a,b])] (.str (S [16*oz a+oz b])):=by
 refine qL ["s"] (Qc _) (λvs e=> ?_) (λA X g L lx G=> ?_)
 ·refine eE (vr e) λz Ub=> ?_;obtain rfl:=Ub;kernel_rfl!
 ·have hv: ∀c∈pD,oz c<=15:=by decide
  have:=hv a ha
  have:=hv b hb
  refine nt (oq G (ps:=[.int ((16*oz a+oz b:Nat):Int)]) (by kernel_rfl) (by kernel_rfl) (mM ?_ mP) (CH (by exact (mK (.i (.l xA (.c 15)) (.i (.l xB (.c 15)) (.l (.a (.m 16 xA) xB) (.c 1114111)))) [_,_]) (by assumption) this)))
  refine oq G (ps:=[.str (S [a,b]),.int 16]) (by kernel_rfl) (by kernel_rfl) (mM ?_ (mM mT mP)) (KC ha hb) (.inr ⟨_,rfl⟩)
  refine mW (qE (l:=[c,a,b]) ?_ (n8 mT) (n8 mT) (by have:=aw;simp;exact (mK (.i (.e xA xL) (.l xO xA)) [_]) this)) rfl
  walk_at "ev"
end
section
variable {w:au}
def fN (n:Nat):Fx:=⟨false,de n U⟩
noncomputable def tA:Fx:=⟨false,iD 2 1073⟩
def Fd:Fx:=⟨false,rn U 6⟩
def yY:Fx:=⟨false,rn U 3⟩
def xm:Fx:=⟨false,rn (2*U) 3⟩
theorem FZ:FR (yY) 4599676419421066581:=uh (a:=false) (m:=6004799503160661) (e:= -54) _ (by kernel_rfl) (by kernel_rfl)
theorem Ld:FR (Fd) 4595172819793696085:=uh (a:=false) (m:=6004799503160661) (e:= -55) _ (by kernel_rfl) (by kernel_rfl)
theorem GY:FR (xm) 4604180019048437077:=uh (a:=false) (m:=6004799503160661) (e:= -53) _ (by kernel_rfl) (by kernel_rfl)
theorem zM:FR (tA) 4602678819172646912:=uh (a:=false) (m:=4503599627370496) (e:= -53) _ (by kernel_rfl) (by kernel_rfl)
theorem IH:FR (fN 0) 0:=uh (a:=false) (m:=0) (e:= -1074) _ (by kernel_rfl) (by kernel_rfl)
theorem RW:FR (fN 1) 4607182418800017408:=uh (a:=false) (m:=4503599627370496) (e:= -52) _ (by kernel_rfl) (by kernel_rfl)
theorem RH:FR (fN 2) 4611686018427387904:=uh (a:=false) (m:=4503599627370496) (e:= -51) _ (by kernel_rfl) (by kernel_rfl)
theorem Sb:FR (fN 4) 4616189618054758400:=uh (a:=false) (m:=4503599627370496) (e:= -50) _ (by kernel_rfl) (by kernel_rfl)
theorem Sq:FR (fN 6) 4618441417868443648:=uh (a:=false) (m:=6755399441055744) (e:= -50) _ (by kernel_rfl) (by kernel_rfl)
end
end
local macro_rules | `(tactic| walk_at $s:str) => q0q "ev=pB IH|pB RW|pB RH|pB Sb|pB Sq|pB zM|nF ?lk|mT" s
section
open PySem.Calls PyProof.Rows PySem.Builtin.Str
section
variable {w:au}
theorem Bu (e:FR f x):mV X h (.fx f) (.float x t):=by exact ⟨_,_,rfl,e⟩
def Nu (m1 m2 k:PV):Option PV:=(n0 m2 m1).bind λa=>(pJ a k).bind λb=>(pJ b (.fx (fN 6))).bind λc=>qK m1 c
def vP (m1 m2 hue:PV):Option PV:=(B1 hue).bind λh=>match h with
 |.fx f=>cond (vh f Fd) (Nu m1 m2 (.fx f)) (cond (vh f tA) (aa m2) (cond (vh f xm) ((n0 (.fx xm) (.fx f)).bind (Nu m1 m2)) (aa m1)))
 |_=>az
theorem Fk {m1 m2 hue r:PV} (e:vP m1 m2 hue=aa r):rN mJ w 1 118 [m1,m2,hue] r:=by
 refine mX (bd.mp e) λh e1 e2=> ?_
 cases h with
 |fx f=>
  dsimp only at e2
  refine qL ["m1","m2","hue"] (DS _) (λvs e=> ?_) (λA X g L lx G=> ?_)
  ·refine vA (vx e) λz z z Ub=> ?_;obtain rfl:=Ub;kernel_rfl!
  ·refine mS (p:=.fx f) (mQ (p:=hue) ?_ wm (Bf e1)) ?_
   ·walk_at "ev"
   refine nk (d:=vh f Fd) (m8 (p:=.fx f) ?_ (ui G (v:=.float 4595172819793696085 1908) (by kernel_rfl) λz=>Bu Ld) Be) (λc1=> ?_) (λc1=> ?_)
   ·walk_at "ev"
   ·rw [c1] at e2
    refine mX (bd.mp e2) λa h1 e2=> ?_
    refine mX (bd.mp e2) λb h2 e2=> ?_
    refine mX (bd.mp e2) λc h3 e2=> ?_
    refine nt (mQ (p:=m1) ?_ (mQ (p:=b) (mQ (p:=a) (mQ (p:=m2) ?_ ?_ (nY h1)) ?_ (pR h2)) ?_ (pR h3)) (qI e2))<;>walk_at "ev"
   rw [c1] at e2
   refine nk (d:=vh f tA) (m8 (p:=.fx f) ?_ (pB zM) Be) (λc2=> ?_) (λc2=> ?_)
   ·walk_at "ev"
   ·rw [c2] at e2
    obtain rfl:=am e2
    refine nt ?_
    walk_at "ev"
   rw [c2] at e2
   refine nk (d:=vh f xm) (m8 (p:=.fx f) ?_ (ui G (v:=.float 4604180019048437077 1912) (by kernel_rfl) λz=>Bu GY) Be) (λc3=> ?_) (λc3=> ?_)
   ·walk_at "ev"
   ·rw [c3] at e2
    refine mX (bd.mp e2) λk h0 e2=> ?_
    refine mX (bd.mp e2) λa h1 e2=> ?_
    refine mX (bd.mp e2) λb h2 e2=> ?_
    refine mX (bd.mp e2) λc h3 e2=> ?_
    refine nt (mQ (p:=m1) ?_ (mQ (p:=b) (mQ (p:=a) (mQ (p:=m2) ?_ ?_ (nY h1)) (mQ (p:=.fx xm) (ui G (v:=.float 4604180019048437077 1912) (by kernel_rfl) λz=>Bu GY) ?_ (nY h0)) (pR h2)) ?_ (pR h3)) (qI e2))<;>walk_at "ev"
   ·rw [c3] at e2
    obtain rfl:=am e2
    refine nt ?_
    walk_at "ev"
 |_=>exact nE e2
end
section
variable {w:au}
def Mx (l s:PV):Option PV:=match l with
 |.fx f=>cond (vh f tA||tw f tA) ((qK (.fx (fN 1)) s).bind (pJ l)) ((qK l s).bind λa=>(pJ l s).bind (n0 a))
 |_=>az
def wj (h l s:PV):Option PV:=cond (rZ s (.fx (fN 0))) (aa (.tup [l,l,l]))
 ((Mx l s).bind λm2=>(pJ (.fx (fN 2)) l).bind λa=>(n0 a m2).bind λm1=>(qK h (.fx yY)).bind λh1=>(n0 h (.fx yY)).bind λh2=>
  (vP m1 m2 h1).bind λr=>(vP m1 m2 h).bind λg=>(vP m1 m2 h2).bind λb=>aa (.tup [r,g,b]))
theorem Rt {G:Prop} (c:rZ s (.fx (fN 0))=false) (e:wj h l s=aa r) (k: ∀m2 a m1 h1 h2 x y z,Mx l s=aa m2->pJ (.fx (fN 2)) l=aa a->n0 a m2=aa m1->qK h (.fx yY)=aa h1->n0 h (.fx yY)=aa h2->vP m1 m2 h1=aa x->vP m1 m2 h=aa y->vP m1 m2 h2=aa z->r= .tup [x,y,z]->G):G:=by
 unfold wj at e
 rw [c] at e
 exact ng e λm2 e1 e=>ng e λa e2 e=>ng e λm1 e3 e=>ng e λh1 e4 e=>ng e λh2 e5 e=>ng e λx e6 e=>ng e λy e7 e=>ng e λz e8 e=>k m2 a m1 h1 h2 x y z e1 e2 e3 e4 e5 e6 e7 e8 (am e).symm
theorem Fw (hs:uC s=ai) (e:wj h l s=aa r):rN mJ w 2 111 [h,l,s] r:=by
 refine qL ["h","l","s"] (Iq _) (λvs e=> ?_) (λA X g L lx G=> ?_)
 ·refine vA (vx e) λu u u Ub=> ?_;obtain rfl:=Ub;kernel_rfl!
 ·refine nk (d:=rZ s (.fx (fN 0))) (m8 (p:=s) ?_ (pB IH) (tQ hs rfl)) (λc1=> ?_) (λc1=> ?_)
  ·walk_at "ev"
  ·unfold wj at e
   rw [c1] at e
   obtain rfl:=am e
   refine nt (oE (ps:=[l,l,l]) (mM ?_ (mM ?_ (mM ?_ mP))) (by have:=aw;simp;exact (mK (.i (.e xA xL) (.l xO xA)) [_]) this))<;>walk_at "ev"
  refine Rt c1 e λm2 a m1 h1 h2 x y z e1 e2 e3 e4 e5 e6 e7 e8 er=> ?_
  subst er
  clear e
  cases l with
  |fx f=>
   unfold Mx at e1
   dsimp only at e1
   refine (λtail=>nk (d:=(vh f tA||tw f tA)) (m8 (p:=.fx f) ?e0 (pB zM) Eb) (λc2=>mS (p:=m2) ?e1 tail) (λc2=>mS (p:=m2) ?e2 tail)) ?tail
   case e0=>walk_at "ev"
   case e1=>
    rw [c2] at e1
    refine mX (bd.mp e1) λk k1 k2=> ?_
    refine mQ (p:=.fx f) ?_ (mQ (p:=.fx (fN 1)) ?_ ?_ (qI k1)) (pR k2)<;>walk_at "ev"
   case e2=>
    rw [c2] at e1
    refine mX (bd.mp e1) λk k1 e1=> ?_
    refine mX (bd.mp e1) λj k2 k3=> ?_
    refine mQ (p:=k) (mQ (p:=.fx f) ?_ ?_ (qI k1)) (mQ (p:=.fx f) ?_ ?_ (pR k2)) (nY k3)<;>walk_at "ev"
   case tail=>
    refine mS (p:=m1) (mQ (p:=a) (mQ (p:=.fx (fN 2)) ?_ ?_ (pR e2)) ?_ (nY e3)) ?_
    ·walk_at "ev"
    ·walk_at "ev"
    ·walk_at "ev"
    refine nt (oE (ps:=[x,y,z]) (mM (oP G (ps:=[m1,m2,h1]) (by kernel_rfl) (DS _).e ?_ (Fk e6)) (mM (oP G (ps:=[m1,m2,h]) (by kernel_rfl) (DS _).e ?_ (Fk e7)) (mM (oP G (ps:=[m1,m2,h2]) (by kernel_rfl) (DS _).e ?_ (Fk e8)) mP))) (by have:=aw;simp;exact (mK (.i (.e xA xL) (.l xO xA)) [_]) this))
    ·refine mM ?_ (mM ?_ (mM (mQ (p:=h) ?_ (ui G (v:=.float 4599676419421066581 1904) (by kernel_rfl) λz=>Bu FZ) (qI e4)) mP))<;>walk_at "ev"
    ·refine mM ?_ (mM ?_ (mM ?_ mP))<;>walk_at "ev"
    ·refine mM ?_ (mM ?_ (mM (mQ (p:=h) ?_ (ui G (v:=.float 4599676419421066581 1904) (by kernel_rfl) λz=>Bu FZ) (nY e5)) mP))<;>walk_at "ev"
  |_=>exact nE e1
end
section
variable {w:au}
def Rp (p:PV):Option Nat:=match p with|.fx f=>HR f|_=>az
noncomputable def zA (i:Nat) (v p q t:PV):PV:=match i with
 |0=>.tup [v,t,p]|1=>.tup [q,v,p]|2=>.tup [p,v,t]|3=>.tup [p,q,v]|4=>.tup [t,p,v]|_=>.tup [v,p,q]
def sy (h s v:PV):Option PV:=cond (rZ s (.fx (fN 0))) (aa (.tup [v,v,v]))
 ((pJ h (.fx (fN 6))).bind λh6=>(Rp h6).bind λi=>(n0 h6 (.int i)).bind λf=>(n0 (.fx (fN 1)) s).bind λa=>(pJ v a).bind λp=>
  (pJ s f).bind λb=>(n0 (.fx (fN 1)) b).bind λc=>(pJ v c).bind λq=>(n0 (.fx (fN 1)) f).bind λd=>(pJ s d).bind λe=>(n0 (.fx (fN 1)) e).bind λk=>(pJ v k).bind λt=>
  aa (zA (i % 6) v p q t))
structure TB (h s v r:PV) (g6:Fx) (i:Nat) (f a p b c q d k j t:PV):Prop where
 e1:pJ h (.fx (fN 6))=aa (.fx g6)
 e2:Rp (.fx g6)=aa i
 e3:n0 (.fx g6) (.int i)=aa f
 e4:n0 (.fx (fN 1)) s=aa a
 e5:pJ v a=aa p
 e6:pJ s f=aa b
 e7:n0 (.fx (fN 1)) b=aa c
 e8:pJ v c=aa q
 e9:n0 (.fx (fN 1)) f=aa d
 e10:pJ s d=aa k
 e11:n0 (.fx (fN 1)) k=aa j
 e12:pJ v j=aa t
 e13:zA (i % 6) v p q t=r
theorem Jx (c1:rZ s (.fx (fN 0))=false) (e:sy h s v=aa r): ∃g6 i f a p b c q d k j t,TB h s v r g6 i f a p b c q d k j t:=by
 unfold sy at e
 rw [c1] at e
 refine ng e λh6 e1 e=>ng e λi e2 e=> ?_
 cases h6 with
 |fx g6=>exact ng e λf e3 e=>ng e λa e4 e=>ng e λp e5 e=>ng e λb e6 e=>ng e λc e7 e=>ng e λq e8 e=>ng e λd e9 e=>ng e λk e10 e=>ng e λj e11 e=>ng e λt e12 e=>
  ⟨g6,i,f,a,p,b,c,q,d,k,j,t,e1,e2,e3,e4,e5,e6,e7,e8,e9,e10,e11,e12,am e⟩
 |_=>exact nE e2
theorem sx (h:(((n:Nat):Int)==(k:Nat))=ai) (e:zA k v p q t=x):x=zA n v p q t:=by rw [<-e,Int.ofNat_inj.mp (gF h)]
theorem Ow: ∀n<6,((((n:Nat):Int)==0)||(((n:Nat):Int)==1)||(((n:Nat):Int)==2)||(((n:Nat):Int)==3)||(((n:Nat):Int)==4)||(((n:Nat):Int)==5))=ai:=by decide
theorem T1 (k0:(((n:Nat):Int)==0)=false) (k1:(((n:Nat):Int)==1)=false) (k2:(((n:Nat):Int)==2)=false) (k3:(((n:Nat):Int)==3)=false) (k4:(((n:Nat):Int)==4)=false) (k5:(((n:Nat):Int)==5)=false): ¬n<6:=λh=>by
 have:=Ow n h
 rw [k0,k1,k2,k3,k4,k5] at this
 exact oW this
theorem AT (hs:uC s=ai) (e:sy h s v=aa r):rN mJ w 2 132 [h,s,v] r:=by
 have hz: ∀l:List PV,l.length=3->l.length<=bo:=λl h=>by rw [h,aw];decide
 refine qL ["h","s","v"] (DQ _) (λvs e=> ?_) (λA X g L lx G=> ?_)
 ·refine vA (vx e) λz z z Ub=> ?_;obtain rfl:=Ub;kernel_rfl!
 refine nk (d:=rZ s (.fx (fN 0))) (m8 (p:=s) ?_ (pB IH) (tQ hs rfl)) (λc1=> ?_) (λc1=> ?_)
 ·walk_at "ev"
 ·have e': .tup [v,v,v]=r:=by unfold sy at e;rw [c1] at e;exact am e
  refine nt (mW (oE (ps:=[v,v,v]) (mM ?_ (mM ?_ (mM ?_ mP))) (hz _ rfl)) e')<;>walk_at "ev"
 obtain ⟨g6,i,f,a,p,b,c,q,d,k,j,t,st⟩:=Jx c1 e
 refine mS (p:=.int i) (oq G (ps:=[.fx g6]) (by kernel_rfl) (by kernel_rfl) (mM (mQ (p:=h) ?_ ?_ (pR st.e1)) mP) (Bt st.e2) (.inr ⟨_,rfl⟩)) ?_
 ·walk_at "ev"
 ·walk_at "ev"
 refine mS (p:=f) (mQ (p:=.fx g6) (mQ (p:=h) ?_ ?_ (pR st.e1)) ?_ (nY st.e3)) ?_
 ·walk_at "ev"
 ·walk_at "ev"
 ·walk_at "ev"
 refine mS (p:=p) (mQ (p:=v) ?_ (mQ (p:=.fx (fN 1)) ?_ ?_ (nY st.e4)) (pR st.e5)) ?_
 ·walk_at "ev"
 ·walk_at "ev"
 ·walk_at "ev"
 refine mS (p:=q) (mQ (p:=v) ?_ (mQ (p:=.fx (fN 1)) ?_ (mQ (p:=s) ?_ ?_ (pR st.e6)) (nY st.e7)) (pR st.e8)) ?_
 ·walk_at "ev"
 ·walk_at "ev"
 ·walk_at "ev"
 ·walk_at "ev"
 refine mS (p:=t) (mQ (p:=v) ?_ (mQ (p:=.fx (fN 1)) ?_ (mQ (p:=s) ?_ (mQ (p:=.fx (fN 1)) ?_ ?_ (nY st.e9)) (pR st.e10)) (nY st.e11)) (pR st.e12)) ?_
 ·walk_at "ev"
 ·walk_at "ev"
 ·walk_at "ev"
 ·walk_at "ev"
 ·walk_at "ev"
 refine mS (p:=.int ((i % 6:Nat):Int)) (mW (mQ (p:=.int i) ?_ mT (oA (by decide))) (by rw [bM _ (by decide)];rfl)) ?_
 ·walk_at "ev"
 refine nk (d:=((i % 6:Nat):Int)==0) (m8 (p:=.int (i % 6:Nat)) ?_ mT qp) (λc=> ?_) (λk0=> ?_)
 ·walk_at "ev"
 ·refine nt (mW (oE (ps:=[v,t,p]) (mM ?_ (mM ?_ (mM ?_ mP))) (hz _ rfl)) ((sx (k:=0) c rfl).trans st.e13))<;>walk_at "ev"
 refine nk (d:=((i % 6:Nat):Int)==1) (m8 (p:=.int (i % 6:Nat)) ?_ mT qp) (λc=> ?_) (λk1=> ?_)
 ·walk_at "ev"
 ·refine nt (mW (oE (ps:=[q,v,p]) (mM ?_ (mM ?_ (mM ?_ mP))) (hz _ rfl)) ((sx (k:=1) c rfl).trans st.e13))<;>walk_at "ev"
 refine nk (d:=((i % 6:Nat):Int)==2) (m8 (p:=.int (i % 6:Nat)) ?_ mT qp) (λc=> ?_) (λk2=> ?_)
 ·walk_at "ev"
 ·refine nt (mW (oE (ps:=[p,v,t]) (mM ?_ (mM ?_ (mM ?_ mP))) (hz _ rfl)) ((sx (k:=2) c rfl).trans st.e13))<;>walk_at "ev"
 refine nk (d:=((i % 6:Nat):Int)==3) (m8 (p:=.int (i % 6:Nat)) ?_ mT qp) (λc=> ?_) (λk3=> ?_)
 ·walk_at "ev"
 ·refine nt (mW (oE (ps:=[p,q,v]) (mM ?_ (mM ?_ (mM ?_ mP))) (hz _ rfl)) ((sx (k:=3) c rfl).trans st.e13))<;>walk_at "ev"
 refine nk (d:=((i % 6:Nat):Int)==4) (m8 (p:=.int (i % 6:Nat)) ?_ mT qp) (λc=> ?_) (λk4=> ?_)
 ·walk_at "ev"
 ·refine nt (mW (oE (ps:=[t,p,v]) (mM ?_ (mM ?_ (mM ?_ mP))) (hz _ rfl)) ((sx (k:=4) c rfl).trans st.e13))<;>walk_at "ev"
 refine nk (d:=((i % 6:Nat):Int)==5) (m8 (p:=.int (i % 6:Nat)) ?_ mT qp) (λc=> ?_) (λk5=> ?_)
 ·walk_at "ev"
 ·refine nt (mW (oE (ps:=[v,p,q]) (mM ?_ (mM ?_ (mM ?_ mP))) (hz _ rfl)) ((sx (k:=5) c rfl).trans st.e13))<;>walk_at "ev"
 exact absurd (fL i (by decide:6>0)) (T1 k0 k1 k2 k3 k4 k5)
end
section
variable {w:au}
def KZ (r g maxc rc gc bc:PV):Option PV:=(cond (rZ r maxc) (n0 bc gc) (cond (rZ g maxc) ((qK (.fx (fN 2)) rc).bind λa=>n0 a bc) ((qK (.fx (fN 4)) gc).bind λa=>n0 a rc))).bind λh=>(qP h (.fx (fN 6))).bind B1
def oJ (r g b:PV):Option PV:=(n0 (nJ r g b) (qu r g b)).bind λrange=>cond (rZ (qu r g b) (nJ r g b)) (aa (.tup [.fx (fN 0),.fx (fN 0),nJ r g b]))
 ((qP range (nJ r g b)).bind λs=>(n0 (nJ r g b) r).bind λa=>(qP a range).bind λrc=>(n0 (nJ r g b) g).bind λa=>(qP a range).bind λgc=>(n0 (nJ r g b) b).bind λa=>(qP a range).bind λbc=>
  (KZ r g (nJ r g b) rc gc bc).bind λh=>aa (.tup [h,s,nJ r g b]))
theorem sA (n:qw p q):uC p=ai:=by
 rcases xZ n with ⟨_,_,rfl,rfl⟩|⟨_,_,rfl,rfl⟩<;>rfl
theorem Cn (a:uC p=ai) (b:uC q=ai) (c:uC r=ai):uC (nJ p q r)=ai:=by
 unfold nJ;cases uv p q<;>cases uv q r<;>cases uv p r<;>assumption
theorem Cg (a:uC p=ai) (b:uC q=ai) (c:uC r=ai):uC (qu p q r)=ai:=by
 unfold qu;cases uv q p<;>cases uv r q<;>cases uv r p<;>assumption
structure Sw (r g b mx range rc gc bc h a1 a2 a3 h0 h1:PV):Prop where
 f1:n0 mx r=aa a1
 f2:qP a1 range=aa rc
 f3:n0 mx g=aa a2
 f4:qP a2 range=aa gc
 f5:n0 mx b=aa a3
 f6:qP a3 range=aa bc
 e5:cond (rZ r mx) (n0 bc gc) (cond (rZ g mx) ((qK (.fx (fN 2)) rc).bind λa=>n0 a bc) ((qK (.fx (fN 4)) gc).bind λa=>n0 a rc))=aa h0
 e7:qP h0 (.fx (fN 6))=aa h1
 e8:B1 h1=aa h
theorem AN {β:Type} {F:PV->Option β} {t:β} {G:Prop} (e:((n0 mx r).bind λa=>(qP a range).bind λrc=>(n0 mx g).bind λa=>(qP a range).bind λgc=>(n0 mx b).bind λa=>(qP a range).bind λbc=>(KZ r g mx rc gc bc).bind F)=aa t)
  (k: ∀rc gc bc h a1 a2 a3 h0 h1,Sw r g b mx range rc gc bc h a1 a2 a3 h0 h1->F h=aa t->G):G:=
 ng e λa1 f1 e=>ng e λrc f2 e=>ng e λa2 f3 e=>ng e λgc f4 e=>ng e λa3 f5 e=>ng e λbc f6 e=>ng e λh f7 e=>ng f7 λh0 e5 e6=>ng e6 λh1 e7 e8=>k rc gc bc h a1 a2 a3 h0 h1 ⟨f1,f2,f3,f4,f5,f6,e5,e7,e8⟩ e
theorem wy {α:Type} {x y z:α} (c:b=ai) (e:cond b x y=z):x=z:=by rw [c] at e;exact e
theorem tP {α:Type} {x y z:α} (c:b=false) (e:cond b x y=z):y=z:=by rw [c] at e;exact e
theorem G0 {l:List PV} (h:l.length=3):l.length<=bo:=by rw [h,aw];decide
theorem E0 (i1:uC r=ai) (i2:uC g=ai) (im:uC (nJ r g b)=ai) (R:Sw r g b (nJ r g b) range rc gc bc h a1 a2 a3 h0 h1):
  mZ mJ w (m5 xY 125 A X [] g' L).env (m5 xY 125 A X [] g' L).A (In (m5 xY 125 A X [] g' L) (("s",s)::("v",nJ r g b)::("rangec",range)::("minc",qu r g b)::("maxc",nJ r g b)::qr ["r","g","b"] [r,g,b]) [])
   ((n7 (nV 31)).drop 6) (uD g' X (.tup [h,s,nJ r g b])):=by
 refine mS (p:=rc) (mQ (p:=a1) (q:=range) (mQ (p:=nJ r g b) (q:=r) ?_ ?_ (nY R.f1)) ?_ (rm R.f2)) ?_
 ·walk_at "ev"
 ·walk_at "ev"
 ·walk_at "ev"
 refine mS (p:=gc) (mQ (p:=a2) (q:=range) (mQ (p:=nJ r g b) (q:=g) ?_ ?_ (nY R.f3)) ?_ (rm R.f4)) ?_
 ·walk_at "ev"
 ·walk_at "ev"
 ·walk_at "ev"
 refine mS (p:=bc) (mQ (p:=a3) (q:=range) (mQ (p:=nJ r g b) (q:=b) ?_ ?_ (nY R.f5)) ?_ (rm R.f6)) ?_
 ·walk_at "ev"
 ·walk_at "ev"
 ·walk_at "ev"
 refine (λtail=>nk (d:=rZ r (nJ r g b)) (m8 (p:=r) (q:=nJ r g b) ?e0 ?e1 (tQ i1 im)) (λc1=>mS (p:=h0) ?e2 tail)
  (λc1=>nk (d:=rZ g (nJ r g b)) (m8 (p:=g) (q:=nJ r g b) ?e3 ?e4 (tQ i2 im)) (λc2=>mS (p:=h0) ?e5 tail) (λc2=>mS (p:=h0) ?e6 tail))) ?tail
 case e0=>walk_at "ev"
 case e1=>walk_at "ev"
 case e3=>walk_at "ev"
 case e4=>walk_at "ev"
 case e2=>refine mQ (p:=bc) (q:=gc) ?_ ?_ (nY (wy c1 R.e5))<;>walk_at "ev"
 case e5=>exact ng (wy c2 (tP c1 R.e5)) λk k1 k2=>by refine mQ (p:=k) (q:=bc) (mQ (p:=.fx (fN 2)) (q:=rc) ?_ ?_ (qI k1)) ?_ (nY k2)<;>walk_at "ev"
 case e6=>exact ng (tP c2 (tP c1 R.e5)) λk k1 k2=>by refine mQ (p:=k) (q:=rc) (mQ (p:=.fx (fN 4)) (q:=gc) ?_ ?_ (qI k1)) ?_ (nY k2)<;>walk_at "ev"
 refine mS (p:=h) (mQ (p:=h1) (mQ (p:=h0) (q:=.fx (fN 6)) ?_ ?_ (rm R.e7)) wm (Bf R.e8)) ?_
 ·walk_at "ev"
 ·walk_at "ev"
 refine nt (oE (ps:=[h,s,nJ r g b]) (mM ?_ (mM ?_ (mM ?_ mP))) (G0 rfl))<;>walk_at "ev"
theorem uV (n1:qw r g) (n2:qw g b) (n3:qw r b) (e:oJ r g b=aa t):rN mJ w 1 125 [r,g,b] t:=by
 have i1:=sA n1
 have i2:=sA n2
 have i3:=sA (su n3)
 have im:=Cn i1 i2 i3
 have in_:=Cg i1 i2 i3
 have n4:=su n3
 refine ng e λrange e1 e=> ?_
 refine qL ["r","g","b"] (vJ _) (λvs e=> ?_) (λA X g' L lx G=> ?_)
 ·refine vA (vx e) λz z z Ub=> ?_;obtain rfl:=Ub;kernel_rfl!
 have hh:(A.deeper (bf xY L 125)).handled=az:=G.room.1
 refine mS (p:=nJ r g b) (oq G (ps:=[r,g,b]) (by kernel_rfl) (by kernel_rfl) (mM ?_ (mM ?_ (mM ?_ mP))) (AF hh n1 n2 n3 n4)) ?_
 ·walk_at "ev"
 ·walk_at "ev"
 ·walk_at "ev"
 refine mS (p:=qu r g b) (oq G (ps:=[r,g,b]) (by kernel_rfl) (by kernel_rfl) (mM ?_ (mM ?_ (mM ?_ mP))) (A2 hh n1 n2 n3 n4)) ?_
 ·walk_at "ev"
 ·walk_at "ev"
 ·walk_at "ev"
 refine mS (p:=range) (mQ (p:=nJ r g b) ?_ ?_ (nY e1)) ?_
 ·walk_at "ev"
 ·walk_at "ev"
 refine mS (p:=nJ r g b) ?_ ?_
 ·walk_at "ev"
 refine nk (d:=rZ (qu r g b) (nJ r g b)) (m8 (p:=qu r g b) (q:=nJ r g b) ?_ ?_ (tQ in_ im)) (λc1=> ?_) (λc1=> ?_)
 ·walk_at "ev"
 ·walk_at "ev"
 ·refine nt (mW (oE (ps:=[.fx (fN 0),.fx (fN 0),nJ r g b]) (mM ?_ (mM ?_ (mM ?_ mP))) (G0 rfl)) (am (wy c1 e)))<;>walk_at "ev"
 refine ng (tP c1 e) λs e2 e=>AN e λrc gc bc h a1 a2 a3 h0 h1 R e=> ?_
 refine mS (p:=s) (mQ (p:=range) (q:=nJ r g b) ?_ ?_ (rm e2)) ?_
 ·walk_at "ev"
 ·walk_at "ev"
 obtain rfl:=am e
 exact E0 i1 i2 im R
end
section
variable {w:au}
def Qj (l range sum mx mn:PV):Option PV:=match l with
 |.fx f=>cond (vh f tA||tw f tA) (qP range sum) ((n0 (.fx (fN 2)) mx).bind λa=>(n0 a mn).bind (qP range))
 |_=>az
def uM (r g b:PV):Option PV:=(qK (nJ r g b) (qu r g b)).bind λsum=>(n0 (nJ r g b) (qu r g b)).bind λrange=>(qP sum (.fx (fN 2))).bind λl=>
 cond (rZ (qu r g b) (nJ r g b)) (aa (.tup [.fx (fN 0),l,.fx (fN 0)]))
 ((Qj l range sum (nJ r g b) (qu r g b)).bind λs=>(n0 (nJ r g b) r).bind λa=>(qP a range).bind λrc=>(n0 (nJ r g b) g).bind λa=>(qP a range).bind λgc=>(n0 (nJ r g b) b).bind λa=>(qP a range).bind λbc=>
  (KZ r g (nJ r g b) rc gc bc).bind λh=>aa (.tup [h,l,s]))
theorem QT {G:Prop} (e:Qj l range sum mx mn=aa s) (k: ∀f,l= .fx f->cond (vh f tA||tw f tA) (qP range sum) ((n0 (.fx (fN 2)) mx).bind λa=>(n0 a mn).bind (qP range))=aa s->G):G:=by
 cases l with
 |fx f=>exact k f rfl e
 |_=>exact nE e
theorem GF (n1:qw r g) (n2:qw g b) (n3:qw r b) (e:uM r g b=aa t):rN mJ w 1 104 [r,g,b] t:=by
 have i1:=sA n1
 have i2:=sA n2
 have i3:=sA (su n3)
 have im:=Cn i1 i2 i3
 have in_:=Cg i1 i2 i3
 have n4:=su n3
 refine ng e λsum e0 e=>ng e λrange e1 e=>ng e λl el e=> ?_
 refine qL ["r","g","b"] (DZ _) (λvs e=> ?_) (λA X g' L lx G=> ?_)
 ·refine vA (vx e) λz z z Ub=> ?_;obtain rfl:=Ub;kernel_rfl!
 have hh:(A.deeper (bf IC L 104)).handled=az:=G.room.1
 refine mS (p:=nJ r g b) (oq G (ps:=[r,g,b]) (by kernel_rfl) (by kernel_rfl) (mM ?_ (mM ?_ (mM ?_ mP))) (AF hh n1 n2 n3 n4)) ?_
 ·walk_at "ev"
 ·walk_at "ev"
 ·walk_at "ev"
 refine mS (p:=qu r g b) (oq G (ps:=[r,g,b]) (by kernel_rfl) (by kernel_rfl) (mM ?_ (mM ?_ (mM ?_ mP))) (A2 hh n1 n2 n3 n4)) ?_
 ·walk_at "ev"
 ·walk_at "ev"
 ·walk_at "ev"
 refine mS (p:=sum) (mQ (p:=nJ r g b) (q:=qu r g b) ?_ ?_ (qI e0)) ?_
 ·walk_at "ev"
 ·walk_at "ev"
 refine mS (p:=range) (mQ (p:=nJ r g b) (q:=qu r g b) ?_ ?_ (nY e1)) ?_
 ·walk_at "ev"
 ·walk_at "ev"
 refine mS (p:=l) (mQ (p:=sum) (q:=.fx (fN 2)) ?_ ?_ (rm el)) ?_
 ·walk_at "ev"
 ·walk_at "ev"
 refine nk (d:=rZ (qu r g b) (nJ r g b)) (m8 (p:=qu r g b) (q:=nJ r g b) ?_ ?_ (tQ in_ im)) (λc1=> ?_) (λc1=> ?_)
 ·walk_at "ev"
 ·walk_at "ev"
 ·refine nt (mW (oE (ps:=[.fx (fN 0),l,.fx (fN 0)]) (mM ?_ (mM ?_ (mM ?_ mP))) (G0 rfl)) (am (wy c1 e)))<;>walk_at "ev"
 refine ng (tP c1 e) λs e2 e=>AN e λrc gc bc h a1 a2 a3 h0 h1 R e=>QT e2 λf lf e2=> ?_
 cases lf
 refine (λtail=>nk (d:=(vh f tA||tw f tA)) (m8 (p:=.fx f) ?e0 (pB zM) Eb) (λc2=>mS (p:=s) ?e1 tail) (λc2=>mS (p:=s) ?e2 tail)) ?tail
 case e0=>walk_at "ev"
 case e1=>refine mQ (p:=range) (q:=sum) ?_ ?_ (rm (wy c2 e2))<;>walk_at "ev"
 case e2=>exact ng (tP c2 e2) λk k1 e2=>ng e2 λj k2 k3=>by refine mQ (p:=range) (q:=j) ?_ (mQ (p:=k) (q:=qu r g b) (mQ (p:=.fx (fN 2)) (q:=nJ r g b) ?_ ?_ (nY k1)) ?_ (nY k2)) (rm k3)<;>walk_at "ev"
 refine mS (p:=rc) (mQ (p:=a1) (q:=range) (mQ (p:=nJ r g b) (q:=r) ?_ ?_ (nY R.f1)) ?_ (rm R.f2)) ?_
 ·walk_at "ev"
 ·walk_at "ev"
 ·walk_at "ev"
 refine mS (p:=gc) (mQ (p:=a2) (q:=range) (mQ (p:=nJ r g b) (q:=g) ?_ ?_ (nY R.f3)) ?_ (rm R.f4)) ?_
 ·walk_at "ev"
 ·walk_at "ev"
 ·walk_at "ev"
 refine mS (p:=bc) (mQ (p:=a3) (q:=range) (mQ (p:=nJ r g b) (q:=b) ?_ ?_ (nY R.f5)) ?_ (rm R.f6)) ?_
 ·walk_at "ev"
 ·walk_at "ev"
 ·walk_at "ev"
 refine (λtail=>nk (d:=rZ r (nJ r g b)) (m8 (p:=r) (q:=nJ r g b) ?h0 ?h1 (tQ i1 im)) (λc1=>mS (p:=h0) ?h2 tail)
  (λc1=>nk (d:=rZ g (nJ r g b)) (m8 (p:=g) (q:=nJ r g b) ?h3 ?h4 (tQ i2 im)) (λc2=>mS (p:=h0) ?h5 tail) (λc2=>mS (p:=h0) ?h6 tail))) ?tl2
 case h0=>walk_at "ev"
 case h1=>walk_at "ev"
 case h3=>walk_at "ev"
 case h4=>walk_at "ev"
 case h2=>refine mQ (p:=bc) (q:=gc) ?_ ?_ (nY (wy c1 R.e5))<;>walk_at "ev"
 case h5=>exact ng (wy c2 (tP c1 R.e5)) λk k1 k2=>by refine mQ (p:=k) (q:=bc) (mQ (p:=.fx (fN 2)) (q:=rc) ?_ ?_ (qI k1)) ?_ (nY k2)<;>walk_at "ev"
 case h6=>exact ng (tP c2 (tP c1 R.e5)) λk k1 k2=>by refine mQ (p:=k) (q:=rc) (mQ (p:=.fx (fN 4)) (q:=gc) ?_ ?_ (qI k1)) ?_ (nY k2)<;>walk_at "ev"
 refine mS (p:=h) (mQ (p:=h1) (mQ (p:=h0) (q:=.fx (fN 6)) ?_ ?_ (rm R.e7)) wm (Bf R.e8)) ?_
 ·walk_at "ev"
 ·walk_at "ev"
 refine nt (mW (oE (ps:=[h,.fx f,s]) (mM ?_ (mM ?_ (mM ?_ mP))) (G0 rfl)) (am e))<;>walk_at "ev"
end
section
variable {w:au}
def vv (k:Nat):List Nat:=if yy.contains k then [k] else if k=32 then [95] else pC k
def DW (b:List UInt8) (x:List Nat):List Nat:=if b.isEmpty then [] else [61,63]++x++[63,113,63]++(b.map (·.toNat)).flatMap vv++[63,61]
theorem Tz:(KB P).lookup 46=aa ND:=by kernel_rfl
theorem Ry:((vd (Ar 256) yy 1347).set 32 (.str (S [95]) 1546)).map D1=((ag 256).map vv).map aa:=by kernel_rfl
theorem FU (k:Nat):1<=(vv k).length/\(vv k).length<=3:=by
 unfold vv
 split
 ·simp
 ·split
  ·decide
  ·simp [pC]
theorem Jb:rN mJ w 1 76 [.bytes #[]] (.str (S [])):=by
 refine uc ["header_bytes","charset"] (ds:=[.str (aS "iso-8859-1")]) [.str (aS "iso-8859-1") 1849] (IG _) (λX h=>mR.cons ou mR.nil) (λs vs B e=> ?_) (λA X g L lx G=> ?_)
 ·refine eE (vr e) λz Ub=> ?_;obtain rfl:=Ub;exact .of_defaults rfl (B.frag 69 Nf (by kernel_rfl)) rfl (by with_unfolding_all rfl) (by with_unfolding_all rfl)
 ·refine nk (d:=ai) (vn (b:=false) (rF (p:=.bytes #[]) ?_ (Am (l:=[]) (by decide)))) (λz=> ?_) (λe=>by exact rI e)
  ·walk_at "ev"
  ·refine nt ?_
   exact nh (by kernel_rfl)
theorem Km (hb:b≠[]) (hl:b.length<=5) (hx:x.length<=1000):rN mJ w 1 76 [.bytes b.toArray,.str (S x)] (.str (S (DW b x))):=by
 refine uc ["header_bytes","charset"] (ds:=[]) [] (IG _) (λX h=>mR.nil) (λs vs B e=> ?_) (λA X g L lx G=> ?_)
 ·refine rU (FK e) λz z Ub=> ?_;obtain rfl:=Ub;exact .of_defaults rfl (B.frag 69 Nf (by kernel_rfl)) rfl (by with_unfolding_all rfl) (by with_unfolding_all rfl)
 ·have Uu:b.isEmpty=false:=by cases b with|nil=>exact absurd rfl hb|cons=>rfl
  have Uo:((b.map (·.toNat)).map λc=>(vv c).length).sum<=3*b.length:=by
   clear hb hl Uu
   induction b with
   |nil=>simp
   |cons c b ih=>
    have:=FU c.toNat
    simp only [ba,eb,aU]
    exact (mK (.i (.l xB (.m 3 xC)) (.i (.l xA xO) (.l (.a xA xB) (.m 3 (.a xC xI))))) [_,_,_]) ih this.2
  refine nk (d:= !!b.isEmpty) (vn (rF (p:=.bytes b.toArray) ?_ (Am (by exact (mK (.i (.l xA xN) (.l xA (.c 1000000))) [_]) hl)))) (λe=>by rw [Uu] at e;exact oW e) (λz=> ?_)
  ·walk_at "ev"
  refine mS (p:=.str (S ((b.map (·.toNat)).flatMap vv))) (ro (p:=.str (S (b.map (·.toNat)))) (T:="str") (ro (p:=.bytes b.toArray) (T:="bytes") ?_ ⟨λs v r=> ?_,λh v r a e=> ?_⟩ FB.plainAttrs_bytes lV FB.type_bytes_decode (mM Kf mP) (IP hl hb)) oy F.plainAttrs_str F.slot_str_translate F.type_str_translate (mM (p:=.list ((ag 256).map λk=>.str (S (vv k)))) ?_ mP) (yF (λc hc=> ?_) (by exact (mK (.i (.l xB xN) (.i (.l xA (.m 3 xB)) (.l xA (.c 100000)))) [_,_]) hl Uo) (λc z=>(FU c).1))) ?_
  ·walk_at "ev"
  ·obtain ⟨t,rfl⟩:=r;exact typeIs_bytes _ _ _
  ·obtain ⟨t,rfl⟩:=r;cases e
  ·refine mW (wB (ps:=((ag 256).map vv).map λl=>.str (S l)) G.base (λh i=>G.offX i) G.gl G.fn (by kernel_rfl) Tz ⟨rfl,_,rfl⟩ (λh=>yi Ry)) ?_
   rw [aB];rfl
  ·obtain ⟨u,_,rfl⟩:=aK.mp hc
   exact u.toNat_lt
  refine nt ?_
  refine mW (J5 (l:=[61,63]++(x++([63,113,63]++((b.map (·.toNat)).flatMap vv++([63,61]++[]))))) (v6 ?_ (v6 (NG ?_ (by exact (mK (.i (.l xA xQ) (.l xA (.c 100000))) [_]) hx)) (v6 ?_ (v6 (NG ?_ ?_) (v6 ?_ Pm))))) ?_) ?_
  ·exact nh (by kernel_rfl)
  ·walk_at "ev"
  ·exact nh (by kernel_rfl)
  ·walk_at "ev"
  ·rw [fZ];exact (mK (.i (.l xB xN) (.i (.l xA (.m 3 xB)) (.l xA (.c 100000)))) [_,_]) hl Uo
  ·exact nh (by kernel_rfl)
  ·simp only [af,fZ,aU,bQ];exact (mK (.i (.l xC xN) (.i (.l xA xQ) (.i (.l xB (.m 3 xC)) (.l (.a (.a (.a xJ xI) xI) (.a xA (.a (.a (.a (.a xJ xI) xI) xI) (.a xB (.a (.a (.a xJ xI) xI) xJ))))) (.c 100000))))) [_,_,_]) hl hx Uo
  ·unfold DW
   rw [Uu]
   simp
end
end
local macro_rules | `(tactic| walk_at $s:str) => q0q "has=Co|xv ?lk ?has;op=n6|nU|rA|y8|ue|qp|sP" s
section
open PySem.Calls PyProof.Rows PySem.Builtin.Str
section
variable {w:au}
def hx (c:Nat):Bool:=pD.contains c
noncomputable def nO (Un:List Nat):List Nat->List Nat
 |[]=>Un
 |[c]=>if c=61 then [] else c::Un
 |[c,a]=>c::nO Un [a]
 |c::a::b::r=>if c=61/\hx a=ai/\hx b=ai then (16*oz a+oz b)::nO Un r else c::nO Un (a::b::r)
theorem yw (Un:List Nat): ∀l:List Nat,(nO Un l).length<=l.length+Un.length
 |[]=>by simp [nO]
 |[c]=>by
  rw [nO];split<;>simp only [aU,bQ]<;>(first|exact mK (.l (.a xA xI) (.a (.a xJ xI) xA)) [_]|exact mK (.l xJ (.a (.a xJ xI) xA)) [_])
 |[c,a]=>by
  have:=yw Un [a]
  rw [nO];simp only [aU,bQ] at this ⊢;exact (mK (.i (.l xA (.a (.a xJ xI) xB)) (.l (.a xA xI) (.a (.a (.a xJ xI) xI) xB))) [_,_]) this
 |c::a::b::r=>by
  have h1:=yw Un r
  have h2:=yw Un (a::b::r)
  rw [nO]
  simp only [aU] at h2 ⊢
  split<;>simp only [aU]<;>(first|exact (mK (.i (.l xA (.a (.a (.a xB xI) xI) xC)) (.l (.a xA xI) (.a (.a (.a (.a xB xI) xI) xI) xC))) [_,_,_]) h2|exact (mK (.i (.l xA (.a xB xC)) (.l (.a xA xI) (.a (.a (.a (.a xB xI) xI) xI) xC))) [_,_,_]) h1)
def o0 (UC:List Nat):List (List Nat):=(Txt.lines (S UC)).map λx=>(Txt.rstrip x).cps.toList
def rg (UC Un:List Nat):List Nat:=(o0 UC).flatMap (nO Un)
def vy (UC Un:List Nat):List Nat:=if [13,10].contains (UC.getLastD 0)=false/\Txt.endswith (S (rg UC Un)) (S Un)=ai then ri (rg UC Un) az (aa (-(Un.length:Int))) else rg UC Un
theorem B2 (x:Str):(Txt.rstrip x).cps.toList.length<=x.length:=by
 have:(Txt.rstrip x).length<=x.length:=by
  show (if _ then _ else _:Str).length<=_
  split
  ·exact aN _
  ·show (strSub _ _ _).length<=_
   unfold strSub fJ
   rw [Array.size_extract]
   exact mK (.l (.s (.n xA xB) xC) xB) [_,_,_]
 simpa [fJ] using this
theorem MP (UC Un:List Nat) (k:Nat):(((o0 UC).take k).flatMap (nO Un)).length<=(UC.length+1)*(1+Un.length):=by
 have h:=fB (S UC)
 rw [m6] at h
 have UK: ∀l:List Str,((l.map λx=>(Txt.rstrip x).cps.toList).flatMap (nO Un)).length<=((l.map (·.length)).sum+l.length)*(1+Un.length):=by
  intro l
  induction l with
  |nil=>simp
  |cons x l ih=>
   have h1:=yw Un (Txt.rstrip x).cps.toList
   have h2:=B2 x
   simp only [ba,bh,af,eb,aU]
   have e:(x.length+(l.map (·.length)).sum+(l.length+1))*(1+Un.length)=((l.map (·.length)).sum+l.length)*(1+Un.length)+(x.length+1)*(1+Un.length):=by
    rw [<-iz];congr 1;exact mK (.e (.a (.a xA xB) (.a xC xI)) (.a (.a xB xC) (.a xA xI))) [_,_,_]
   have e2:x.length+Un.length<=(x.length+1)*(1+Un.length):=by
    rw [iz,Nat.mul_add];exact mK (.l (.a xA xB) (.a (.a (.r xA 1) xC) (.m 1 (.a xI xB)))) [_,_,_]
   exact (mK (.i (.l xB xD) (.i (.l xA (.a xE xF)) (.i (.l xE xG) (.i (.e xC (.a xD xH)) (.i (.l (.a xG xF) xH) (.l (.a xA xB) xC)))))) [_,_,_,_,_,_,_,_]) ih h1 h2 e e2
 have e:(o0 UC).take k=((Txt.lines (S UC)).take k).map λx=>(Txt.rstrip x).cps.toList:=by unfold o0;rw [iK]
 rw [e]
 refine ch (UK _) (lK _ ?_)
 have h3: ∀(l:List Str) (k:Nat),((l.take k).map (·.length)).sum+(l.take k).length<=(l.map (·.length)).sum+l.length:=by
  intro l
  induction l with
  |nil=>intro k;simp
  |cons x l ih=>
   intro k
   cases k with
   |zero=>simp
   |succ k=>
    have:=ih k
    simp only [eN,ba,eb,aU]
    exact (mK (.i (.l (.a xB xC) (.a xD xE)) (.l (.a (.a xA xB) (.a xC xI)) (.a (.a xA xD) (.a xE xI)))) [_,_,_,_,_]) this
 have:=h3 (Txt.lines (S UC)) k
 exact (mK (.i (.l (.a xD xE) (.a xC xI)) (.i (.l (.a xA xB) (.a xD xE)) (.l (.a xA xB) (.a xC xI)))) [_,_,_,_,_]) h this
theorem xz: ∀{l:List Nat},a∈l->a<=l.sum
 |x::l,h=>by
  rw [eb]
  rcases ao.mp h with e|e
  ·exact (mK (.i (.e xA xB) (.l xA (.a xB xC))) [_,_,_]) e
  ·have:=xz e;exact (mK (.i (.l xA xC) (.l xA (.a xB xC))) [_,_,_]) this
theorem yd (h:c≠61):nO Un (c::r)=c::nO Un r:=by
 match r with
 |[]=>simp [nO,h]
 |[a]=>simp [nO]
 |a::b::r=>rw [nO,if_neg λq=>h q.1]
theorem Dt:nO Un [61]=[]:=by simp [nO]
theorem Fa (ha:hx a=ai) (hb:hx b=ai):nO Un (61::a::b::r)=(16*oz a+oz b)::nO Un r:=by
 rw [nO,if_pos ⟨rfl,ha,hb⟩]
theorem Kn (hr:r≠[]) (h: ∀a b r',r=a::b::r'->(hx a&&hx b)=false):nO Un (61::r)=61::nO Un r:=by
 match r with
 |[]=>exact absurd rfl hr
 |[a]=>simp [nO]
 |a::b::r=>rw [nO,if_neg λq=>by have:=h a b r rfl;rw [q.2.1,q.2.2] at this;exact rI this]
noncomputable def Qn:eh->List eh
 |.For _ _ b _ _=>b
 |.While _ b _ _=>b
 |.If _ b _ _=>b
 |_=>[]
noncomputable def nB (l:List eh) (i:Nat):eh:=l.getD i (.Pass ku)
def Qp:List eh:=Qn (nB (n7 (nV 23)) 2)
def AA:List eh:=Qn (nB Qp 4)
def NX:List eh:=match nB AA 1 with
 |.If _ _ [.If _ _ [.If _ _ o _] _] _=>o
 |_=>[]
noncomputable def Cv:List Nat:=(aS "0123456789abcdefABCDEF").cps.toList
theorem Hm (c:Nat):Cv.contains c=hx c:=by
 have h1: ∀x∈Cv,x∈pD:=by decide+kernel
 have h2: ∀x∈pD,x∈Cv:=by decide+kernel
 unfold hx
 rw [dE,hG,hG]
 exact ⟨h1 c,h2 c⟩
theorem Jt (h:hx c=ai):c∈pD:=hG.mp h
theorem AR {l:List Nat} (e:l.drop i=x::r):l[i]? =aa x/\l.drop (i+1)=r/\i<l.length:=by
 have hi:i<l.length:=by
  rcases dI i l.length with h|h
  ·exact h
  ·rw [fq h] at e;cases e
 rw [gw hi] at e
 cases e
 exact ⟨aA hi,rfl,hi⟩
theorem Eh:rN mJ w 2 97 [.str (S []),.str (S Un)] (.str (S [])):=by
 refine uc ["encoded","eol"] (ds:=[]) [] (Cq _) (λX h=>mR.nil) (λs vs B e=> ?_) (λA X g L lx G=> ?_)
 ·refine rU (FK e) λz z Ub=> ?_;obtain rfl:=Ub;exact .of_defaults rfl (B.frag 90 No (by kernel_rfl)) rfl (by with_unfolding_all rfl) (by with_unfolding_all rfl)
 ·refine nk (d:=ai) (vn (b:=false) (rF (p:=.str (S [])) ?_ (ub (by decide)))) (λz=> ?_) (λe=>by exact rI e)
  ·walk_at "ev"
  ·refine nt ?_
   walk_at "ev"
set_option maxHeartbeats 1000000 in
theorem w9 (Uu:UC≠[]) (he:UC.length<=1000) (hE:Un.length<=2):rN mJ w 2 97 [.str (S UC),.str (S Un)] (.str (S (vy UC Un))):=by
 refine uc ["encoded","eol"] (ds:=[]) [] (Cq _) (λX h=>mR.nil) (λs vs B e=> ?_) (λA X g L lx G=> ?_)
 ·refine rU (FK e) λz z Ub=> ?_;obtain rfl:=Ub;exact .of_defaults rfl (B.frag 90 No (by kernel_rfl)) rfl (by with_unfolding_all rfl) (by with_unfolding_all rfl)
 ·have hz:=aw
  have Uo:=fB (S UC)
  rw [m6] at Uo
  have bound: ∀k,(((o0 UC).take k).flatMap (nO Un)).length<=10000:=λk=>by
   have h1:(UC.length+1)*(1+Un.length)<=1001*3:=gr (by exact (mK (.i (.l xA xQ) (.l (.a xA xI) (.c 1001))) [_]) he) (by exact (mK (.i (.l xA xM) (.l (.a xI xA) xO)) [_]) hE)
   have:=MP UC Un k
   exact (mK (.i (.l xB (.m 1001 xO)) (.i (.l xA xB) (.l xA (.c 10000)))) [_,_]) h1 this
  have Xh:UC.isEmpty=false:=by cases UC with|nil=>exact absurd rfl Uu|cons=>rfl
  refine nk (d:= !!UC.isEmpty) (vn (rF (p:=.str (S UC)) ?_ (ub (by exact (mK (.i (.l xA xQ) (.l xA (.c 1000000))) [_]) he)))) (λe=>by rw [Xh] at e;exact oW e) (λz=> ?_)
  ·walk_at "ev"
  refine mS (p:=.str (S [])) (nh (by kernel_rfl)) ?_
  refine rQ G (l:=Txt.lines (S UC)) (V:=PV.str) (bs:=λx=>[("line",.str x)]) (λk=>("decoded",.str (S (((o0 UC).take k).flatMap (nO Un))))::qr ["encoded","eol"] [.str (S UC),.str (S Un)]) (λz=>[])
   (qJ (rf (p:=.str (S UC)) (T:="str") ?_ oy F.plainAttrs_str F.slot_str_splitlines F.type_str_splitlines (xo (by rw [m6];exact (mK (.i (.l xA xQ) (.i (.e xB xL) (.l (.a xA xI) xB))) [_,_]) he hz))) G.room.1 (.inl ⟨_,_,rfl⟩) λb hb=>ax _ hb) rfl rfl (λa is z=>nZ) (λk a g' is hk G'=> ?_) ?_
  ·walk_at "ev"
  ·have ea:(Txt.rstrip a)=S (Txt.rstrip a).cps.toList:=rfl
   have VP:a.length<=1001:=by
    have:a.length<=((Txt.lines (S UC)).map (·.length)).sum:=xz (aK.mpr ⟨a,bu hk,rfl⟩)
    exact (mK (.i (.l xB xQ) (.i (.l (.a xC xD) (.a xB xI)) (.i (.l xA xC) (.l xA (.c 1001))))) [_,_,_,_]) he Uo this
   have W4:=B2 a
   have Wo:((o0 UC).take (k+1)).flatMap (nO Un)=((o0 UC).take k).flatMap (nO Un)++nO Un (Txt.rstrip a).cps.toList:=by
    have:(o0 UC)[k]? =aa (Txt.rstrip a).cps.toList:=by unfold o0;rw [a7,hk];rfl
    rw [gA,this]
    simp
   have b1:=bound (k+1)
   rw [Wo,af] at b1
   have b2:=bound k
   generalize Wm:((o0 UC).take k).flatMap (nO Un)=UI at*
   generalize hfull:((o0 UC).take (k+1)).flatMap (nO Un)=full at*
   generalize hln:(Txt.rstrip a).cps.toList=ln at*
   have XQ:ln.length<=1001:=by exact (mK (.i (.l xB (.c 1001)) (.i (.l xA xB) (.l xA (.c 1001)))) [_,_]) VP W4
   refine mS (p:=.str (S ln)) (rf (p:=.str a) (T:="str") ?_ oy F.plainAttrs_str F.slot_str_rstrip F.type_str_rstrip (qB (IM (by exact (mK (.i (.e xB xL) (.i (.l xA (.c 1001)) (.l xA xB))) [_,_]) hz VP)) (by rw [ea]))) ?_
   ·walk_at "ev"
   refine nk (d:= !!ln.isEmpty) (vn (rF (p:=.str (S ln)) ?_ (ub (by exact (mK (.i (.l xA (.c 1001)) (.l xA (.c 1000000))) [_]) XQ)))) (λe=> ?_) (λe=> ?_)
   ·walk_at "ev"
   ·have:ln=[]:=by cases ln with|nil=>rfl|cons=>exact oW e
    subst this
    refine tC (p:=.str (S UI)) (q:=.str (S Un)) (r:=.str (S full)) ?_ ?_ ?_ (J1 ?_)
    ·walk_at "lk"
    ·walk_at "ev"
    ·rw [Wo,show nO Un []=Un from rfl]
     exact sL (by exact (mK (.i (.l xB xM) (.i (.e xC xL) (.i (.l xA (.c 10000)) (.l (.a xA xB) xC)))) [_,_,_]) hE hz b2)
    ·walk_at "has"
   refine mS (p:=.int 0) mT ?_
   refine mS (p:=.int ln.length) (oq G' (ps:=[.str (S ln)]) (by kernel_rfl) (by kernel_rfl) (mM ?_ mP) (qB (uS (by rw [m6];exact (mK (.i (.l xA (.c 1001)) (.l xA (.c 1000000))) [_]) XQ)) (by rw [m6]))) ?_
   ·walk_at "ev"
   let Vs:Nat×List Nat->m7:=λq=>[("i",.int (q.1:Nat)),("decoded",.str (S q.2)),("n",.int (ln.length:Nat)),("line",.str (S ln)),("encoded",.str (S UC)),("eol",.str (S Un))]
   let Pw:Nat×List Nat->Prop:=λq=>(q.1<ln.length/\q.2++nO Un (ln.drop q.1)=full)\/(q.1=ln.length/\q.2=full)
   have hln:ln≠[]:=by rintro rfl;exact rI e
   refine pf (σ':=Vs (0,UI)) (by walk_at "has") ?_
   refine C6 (ι:=Nat×List Nat) Pw Vs (λz=>[]) (λq=>ln.length - q.1) (λq=>decide (((q.1:Nat):Int)<(ln.length:Nat))) (0,UI) (.inl ⟨dP.mpr hln,by exact eG▸Wo.symm⟩) rfl rfl (λq hq=> ?_) (λq hq ht=> ?_) (λq hq ht=> ?_)
   ·refine m8 (p:=.int (q.1:Nat)) (q:=.int (ln.length:Nat)) ?_ ?_ rA<;>walk_at "ev"
   ·obtain ⟨i,d⟩:=q
    have hi:i<ln.length:=by have:=of_decide_eq_true ht;exact (mK (.i (.B (.k xA) (.k xB)) (.b xA xB)) [_,_]) this
    have hd:d++nO Un (ln.drop i)=full:=by
     rcases hq with q|q
     ·exact q.2
     ·exact absurd q.1 (dj hi)
    obtain ⟨x,r,WH⟩: ∃x r,ln.drop i=x::r:=by
     cases h:ln.drop i with
     |nil=>have:=congrArg bj h;rw [bH] at this;simp at this;exact ((mK (.i (.b xA xB) (.n (.e (.s xB xA) xJ))) [_,_]) hi this).elim
     |cons x r=>exact ⟨x,r,rfl⟩
    refine rW (AR WH) λVg hr1 z=> ?_
    have VH:d.length<=10000:=by
     have:=congrArg bj hd
     rw [af] at this
     have b3:=bound (k+1)
     rw [hfull] at b3
     exact (mK (.i (.e (.a xA xB) xC) (.i (.l xC (.c 10000)) (.l xA (.c 10000)))) [_,_,_]) this b3
    have tail: ∀(i':Nat) (d':List Nat),i<i'->i'<=ln.length->d'++nO Un (ln.drop i')=full->
      mZ mJ w ((Sc.addX (m5 w7 97 A X [] g L) is).at g').env ((Sc.addX (m5 w7 97 A X [] g L) is).at g').A (In ((Sc.addX (m5 w7 97 A X [] g L) is).at g') (Vs (i',d')) []) (AA.drop 2)
       (λfl h=>(fl= .next\/fl= .cont)/\ ∃j,Pw j/\ln.length - j.1<ln.length - (i,d).1/\In ((Sc.addX (m5 w7 97 A X [] g L) is).at g') (Vs j) [] h):=λi' d' h1 h2 h3=>by
     have hfl':d'.length<=10000:=by
      have:=congrArg bj h3
      rw [af] at this
      have b3:=bound (k+1)
      rw [hfull] at b3
      exact (mK (.i (.e (.a xA xB) xC) (.i (.l xC (.c 10000)) (.l xA (.c 10000)))) [_,_,_]) this b3
     refine nk (d:=((i':Nat):Int)==(ln.length:Nat)) (m8 (p:=.int (i':Nat)) (q:=.int (ln.length:Nat)) ?_ ?_ qp) (λc=> ?_) (λc=> ?_)
     ·walk_at "ev"
     ·walk_at "ev"
     ·have e:i'=ln.length:=by have:=gF c;exact (mK (.i (.E (.k xA) (.k xB)) (.e xA xB)) [_,_]) this
      rw [e,fq (aN _),show nO Un []=Un from rfl] at h3
      refine tC (p:=.str (S d')) (q:=.str (S Un)) (r:=.str (S full)) ?_ ?_ (h3▸sL (by exact (mK (.i (.l xB xM) (.i (.e xC xL) (.i (.l xA (.c 10000)) (.l (.a xA xB) xC)))) [_,_,_]) hE hz hfl')) (Hc (i:=(i,d)) (ln.length,full) (.inr ⟨rfl,rfl⟩) (by exact (mK (.i (.b xB xA) (.b (.s xA xA) (.s xA xB))) [_,_]) hi) rfl ?_)
      ·walk_at "lk"
      ·walk_at "ev"
      ·rw [e];walk_at "has"
     ·have e:i'≠ln.length:=by have:=ne_of_beq_false c;exact (mK (.i (.n (.E (.k xA) (.k xB))) (.n (.e xA xB))) [_,_]) this
      exact Hc (i:=(i,d)) (i',d') (.inl ⟨by exact (mK (.i (.l xA xB) (.i (.n (.e xA xB)) (.b xA xB))) [_,_]) h2 e,h3⟩) (by exact (mK (.i (.b xC xB) (.i (.l xB xA) (.b (.s xA xB) (.s xA xC)))) [_,_,_]) h1 h2) rfl (by walk_at "has")
    refine mS (p:=.str (S [x])) (nA (p:=.str (S ln)) (q:=.int (i:Nat)) ?_ ?_ (qR (by exact mK (.L xJ (.k xA)) [_]) (by simpa using Vg) (by exact (mK (.i (.l xB (.c 1001)) (.i (.b xA xB) (.B (.k xA) xS))) [_,_]) XQ hi))) ?_
    ·walk_at "ev"
    ·walk_at "ev"
    refine nk (d:=([x]!=[61])) (m8 (p:=.str (S [x])) (q:=.str (S [61])) ?_ ?_ ue) (λc=> ?_) (λc=> ?_)
    ·walk_at "ev"
    ·exact nh (by kernel_rfl)
    ·have hne61:x≠61:=by rintro rfl;exact oW c
     refine tC (p:=.str (S d)) (q:=.str (S [x])) (r:=.str (S (d++[x]))) ?_ ?_ (sL (by simp;exact (mK (.i (.e xB xL) (.i (.l xA (.c 10000)) (.l (.a xA xI) xB))) [_,_]) hz VH)) ?_
     ·walk_at "lk"
     ·walk_at "ev"
     refine tC (p:=.int (i:Nat)) (q:=.int 1) (r:=.int ((i+1:Nat):Int)) ?_ ?_ sP ?_
     ·walk_at "lk"
     ·walk_at "ev"
     refine pf ?_ (tail (i+1) (d++[x]) (by exact mK (.b xA (.a xA xI)) [_]) (by exact (mK (.i (.b xA xB) (.l (.a xA xI) xB)) [_,_]) hi) ?_)
     ·walk_at "has"
     ·rw [hr1,aJ,<-hd,WH,yd hne61];rfl
    have hx61:x=61:=by
     by_cases h:x=61
     ·exact h
     ·have:([x]!=[61])=ai:=by simp [h]
      rw [this] at c;exact rI c
    subst hx61
    have U3:ln.length=i+1+r.length:=by have:=congrArg bj WH;rw [bH] at this;simp at this;exact (mK (.i (.e (.s xA xB) (.a xC xI)) (.e xA (.a (.a xB xI) xC))) [_,_,_]) this
    cases r with
    |nil=>
     simp only [bQ] at U3
     refine nk (d:=((i:Nat):Int)+1==(ln.length:Nat)) (m8 (p:=.int ((i:Nat)+1)) (q:=.int (ln.length:Nat)) ?_ ?_ qp) (λc=> ?_) (λc=> ?_)
     ·walk_at "ev"
     ·walk_at "ev"
     ·refine tC (p:=.int (i:Nat)) (q:=.int 1) (r:=.int ((i+1:Nat):Int)) ?_ ?_ sP (Ps (i:=(i,d)) (i+1,d) (.inr ⟨by exact (mK (.i (.e xB (.a (.a xA xI) xJ)) (.e (.a xA xI) xB)) [_,_]) U3,?_⟩) (by exact (mK (.i (.e xA (.a (.a xB xI) xJ)) (.b (.s xA (.a xB xI)) (.s xA xB))) [_,_]) U3) rfl ?_)
      ·walk_at "lk"
      ·walk_at "ev"
      ·rw [WH,Dt,bK] at hd;exact hd
      ·walk_at "has"
     ·have:=ne_of_beq_false c;exact ((mK (.i (.e xA (.a (.a xB xI) xJ)) (.n (.n (.E (.a (.k xB) xI) (.k xA))))) [_,_]) U3 this).elim
    |cons a r=>
     simp only [aU] at U3
     refine rW (AR hr1) λha1 hr2 z=> ?_
     have W0:(∀a' b r',a::r=a'::b::r'->(hx a'&&hx b)=false)->
       mZ mJ w ((Sc.addX (m5 w7 97 A X [] g L) is).at g').env ((Sc.addX (m5 w7 97 A X [] g L) is).at g').A (In ((Sc.addX (m5 w7 97 A X [] g L) is).at g') (("c",.str (S [61]))::Vs (i,d)) []) (NX++AA.drop 2)
        (λfl h=>(fl= .next\/fl= .cont)/\ ∃j,Pw j/\ln.length - j.1<ln.length - (i,d).1/\In ((Sc.addX (m5 w7 97 A X [] g L) is).at g') (Vs j) [] h):=λUW=>by
      refine tC (p:=.str (S d)) (q:=.str (S [61])) (r:=.str (S (d++[61]))) ?_ ?_ (sL (by simp;exact (mK (.i (.e xB xL) (.i (.l xA (.c 10000)) (.l (.a xA xI) xB))) [_,_]) hz VH)) ?_
      ·walk_at "lk"
      ·walk_at "ev"
      refine tC (p:=.int (i:Nat)) (q:=.int 1) (r:=.int ((i+1:Nat):Int)) ?_ ?_ sP ?_
      ·walk_at "lk"
      ·walk_at "ev"
      refine pf ?_ (tail (i+1) (d++[61]) (by exact mK (.b xA (.a xA xI)) [_]) (by exact (mK (.i (.e xB (.a (.a xA xI) (.a xC xI))) (.l (.a xA xI) xB)) [_,_,_]) U3) ?_)
      ·walk_at "has"
      ·rw [hr1,aJ,<-hd,WH,Kn (by simp) UW];rfl
     refine nk (d:=((i:Nat):Int)+1==(ln.length:Nat)) (m8 (p:=.int ((i:Nat)+1)) (q:=.int (ln.length:Nat)) ?_ ?_ qp) (λc=> ?_) (λz=> ?_)
     ·walk_at "ev"
     ·walk_at "ev"
     ·have:=gF c;exact ((mK (.i (.e xA (.a (.a xB xI) (.a xC xI))) (.n (.E (.a (.k xB) xI) (.k xA)))) [_,_,_]) U3 this).elim
     cases r with
     |nil=>
      simp only [bQ] at U3
      refine nk (d:=decide (((i:Nat):Int)+2<(ln.length:Nat))&&ai) (BN (rH (m8 (p:=.int ((i:Nat)+2)) (q:=.int (ln.length:Nat)) ?_ ?_ rA) λh=> ?_)) (λc=> ?_) (λz=> ?_)
      ·walk_at "ev"
      ·walk_at "ev"
      ·have:=of_decide_eq_true h;exact ((mK (.i (.e xA (.a (.a xB xI) (.a xJ xI))) (.n (.B (.a (.k xB) xM) (.k xA)))) [_,_]) U3 this).elim
      ·have:=of_decide_eq_true (aP.mp c).1;exact ((mK (.i (.e xA (.a (.a xB xI) (.a xJ xI))) (.n (.B (.a (.k xB) xM) (.k xA)))) [_,_]) U3 this).elim
      ·exact W0 λz z z e=>by cases e
     |cons b r=>
      simp only [aU] at U3
      refine rW (AR hr2) λV3 hr3 z=> ?_
      have hxT: ∀h,mV ((Sc.addX (m5 w7 97 A X [] g L) is).at g').X h (.str (S Cv)) (.str (.ofString "0123456789abcdefABCDEF") 1334):=λh=>ou
      refine nk (d:=decide (((i:Nat):Int)+2<(ln.length:Nat))&&(hx a&&(hx b&&ai))) (BN (rH (m8 (p:=.int ((i:Nat)+2)) (q:=.int (ln.length:Nat)) ?_ ?_ rA) λz=>
       rH (m8 (p:=.str (S [a])) (q:=.str (S Cv)) (nA (p:=.str (S ln)) (q:=.int ((i:Nat)+1)) ?_ ?_ (qR (by exact mK (.L xJ (.a (.k xA) xI)) [_]) ?_ (by exact (mK (.i (.l xB (.c 1001)) (.i (.e xB (.a (.a xA xI) (.a (.a xC xI) xI))) (.B (.a (.k xA) xI) xS))) [_,_,_]) XQ U3))) (ui G' (v:=.str (.ofString "0123456789abcdefABCDEF") 1334) (by kernel_rfl) hxT) (te wX (by rw [tc,Hm]))) λz=>
       rH (m8 (p:=.str (S [b])) (q:=.str (S Cv)) (nA (p:=.str (S ln)) (q:=.int ((i:Nat)+2)) ?_ ?_ (qR (by exact mK (.L xJ (.a (.k xA) xM)) [_]) ?_ (by exact (mK (.i (.l xB (.c 1001)) (.i (.e xB (.a (.a xA xI) (.a (.a xC xI) xI))) (.B (.a (.k xA) xM) xS))) [_,_,_]) XQ U3))) (ui G' (v:=.str (.ofString "0123456789abcdefABCDEF") 1334) (by kernel_rfl) hxT) (te wX (by rw [tc,Hm]))) λz=>DH)) (λc=> ?_) (λc=> ?_)
      ·walk_at "ev"
      ·walk_at "ev"
      ·walk_at "ev"
      ·walk_at "ev"
      ·exact (show (((i:Nat):Int)+1).toNat=i+1 by exact mK (.e (.t (.a (.k xA) xI)) (.a xA xI)) [_])▸ha1
      ·walk_at "ev"
      ·walk_at "ev"
      ·exact (show (((i:Nat):Int)+2).toNat=i+1+1 by exact mK (.e (.t (.a (.k xA) xM)) (.a (.a xA xI) xI)) [_])▸V3
      ·rw [bI,bI,bI] at c
       have ha:=c.2.1
       have hb:=c.2.2.1
       refine tC (p:=.str (S d)) (q:=.str (S [16*oz a+oz b])) (r:=.str (S (d++[16*oz a+oz b]))) ?_
        (oP G' (ps:=[.str (S [61,a,b])]) (by kernel_rfl) (Qc _).e (mM (mW (qE (l:=ln) (lo:=aa ((i:Nat):Int)) (hi:=aa ((i:Nat)+3)) ?_ (n8 ?_) (n8 ?_) (by exact (mK (.i (.e xB xL) (.i (.l xA (.c 1001)) (.l xA xB))) [_,_]) hz XQ)) ?_) mP) (FY (Jt ha) (Jt hb))) (sL (by simp;exact (mK (.i (.e xB xL) (.i (.l xA (.c 10000)) (.l (.a xA xI) xB))) [_,_]) hz VH)) ?_
       ·walk_at "lk"
       ·walk_at "ev"
       ·walk_at "ev"
       ·walk_at "ev"
       ·rw [show ((i:Nat):Int)+3=((i+3:Nat):Int) by exact mK (.E (.a (.k xA) xO) (.k (.a xA xO))) [_],Bi,WH,show i+3 - i=3 by exact mK (.e (.s (.a xA xO) xA) xO) [_]];rfl
       refine tC (p:=.int (i:Nat)) (q:=.int 3) (r:=.int ((i+3:Nat):Int)) ?_ ?_ sP ?_
       ·walk_at "lk"
       ·walk_at "ev"
       refine pf ?_ (tail (i+3) (d++[16*oz a+oz b]) (by exact mK (.b xA (.a xA xO)) [_]) (by exact (mK (.i (.e xB (.a (.a xA xI) (.a (.a xC xI) xI))) (.l (.a xA xO) xB)) [_,_,_]) U3) ?_)
       ·walk_at "has"
       ·rw [hr3,aJ,<-hd,WH,Fa ha hb];rfl
      ·refine W0 λa' b' r' e=> ?_
       cases e
       have:decide (((i:Nat):Int)+2<(ln.length:Nat))=ai:=decide_eq_true (by exact (mK (.i (.e xB (.a (.a xA xI) (.a (.a xC xI) xI))) (.B (.a (.k xA) xM) (.k xB))) [_,_,_]) U3)
       rw [this,Bool.true_and,Bool.and_true] at c
       exact c
   ·obtain ⟨i,d⟩:=q
    have: ¬i<ln.length:=λh=>by have:=of_decide_eq_false ht;exact (mK (.i (.b xA xB) (.n (.n (.B (.k xA) (.k xB))))) [_,_]) h this
    have hd:d=full:=by
     rcases hq with q|q
     ·exact absurd q.1 this
     ·exact q.2
    subst hd
    exact qT (by walk_at "has")
  ·have e1:((o0 UC).take (Txt.lines (S UC)).length).flatMap (nO Un)=rg UC Un:=by
    unfold rg
    rw [bF (by unfold o0;rw [ah];exact aN _)]
   have b1:=bound (Txt.lines (S UC)).length
   rw [e1] at b1 ⊢
   have Uz:UC.getLast? =aa (UC.getLastD 0):=by
    have h0:UC.getLast? =aa (UC.getLast Uu):=c7 Uu
    rw [gv,h0];rfl
   refine nk (d:=(!([13,10].contains (UC.getLastD 0)))&&(Txt.endswith (S (rg UC Un)) (S Un)&&ai)) (BN (rH (m8 (p:=.str (S [UC.getLastD 0])) (q:=.str (S [13,10])) (nA (p:=.str (S UC)) (q:=.int (-1)) ?_ (r7 (p:=.int 1) mT oU) (tM Uz)) ?_ (te Ep (by rw [tc]))) λz=>
    rH (rF (p:=.bool (Txt.endswith (S (rg UC Un)) (S Un))) (ro (p:=.str (S (rg UC Un))) (T:="str") ?_ oy F.plainAttrs_str F.slot_str_endswith F.type_str_endswith (mM ?_ mP) FO) qA) λz=>DH)) (λc=> ?_) (λc=> ?_)
   ·walk_at "ev"
   ·exact nh (by kernel_rfl)
   ·walk_at "ev"
   ·walk_at "ev"
   ·rw [Bool.and_true,bI] at c
    refine mS (p:=.str (S (vy UC Un))) (mW (qE (l:=rg UC Un) (lo:=az) (hi:=aa (-(Un.length:Int))) ?_ rO (n8 (r7 (oq G (ps:=[.str (S Un)]) (by kernel_rfl) (by kernel_rfl) (mM ?_ mP) (qB (uS (by rw [m6];exact (mK (.i (.l xA xM) (.l xA (.c 1000000))) [_]) hE)) (by rw [m6]))) oU)) (by exact (mK (.i (.e xB xL) (.i (.l xA (.c 10000)) (.l xA xB))) [_,_]) hz b1)) ?_) ?_
    ·walk_at "ev"
    ·walk_at "ev"
    ·unfold vy
     rw [if_pos ⟨by simpa using c.1,c.2⟩]
    ·refine nt ?_
     walk_at "ev"
   ·have:vy UC Un=rg UC Un:=by
     unfold vy
     refine if_neg λq=> ?_
     rw [q.1,q.2] at c
     exact rI c
    rw [this]
    refine nt ?_
    walk_at "ev"
end
section
variable {w:au}
def n5 (k:Nat):List Nat:=if (xy++[13,10]).contains k then [k] else pC k
theorem TC:(KB P).lookup 78=aa NT:=by kernel_rfl
theorem RY:(vd (vd (Ar 256) xy 1552) [13,10] 1863).map D1=((ag 256).map n5).map aa:=by kernel_rfl
theorem AW (k:Nat):1<=(n5 k).length/\(n5 k).length<=3:=by
 unfold n5
 split
 ·simp
 ·simp [pC]
noncomputable def rk (w:Nat) (r:List Nat):Nat:=if r.getD (w - 3) 0=61 then w - 3 else if r.getD (w - 2) 0=61 then w - 2 else w - 1
noncomputable def rT (w:Nat):Nat->List Nat->List (List Nat)
 |0,r=>[r]
 |f+1,r=>if w+1<=r.length then (r.take (rk w r)++[61])::rT w f (r.drop (rk w r)) else [r]
theorem Cj (w:Nat) (r:List Nat) (hw:4<=w):1<=rk w r/\rk w r<=w - 1:=by
 unfold rk
 split
 ·exact (mK (.i (.l xK xA) (.a (.l xI (.s xA xO)) (.l (.s xA xO) (.s xA xI)))) [_]) hw
 ·split<;>(first|exact (mK (.i (.l xK xA) (.a (.l xI (.s xA xI)) (.l (.s xA xI) (.s xA xI)))) [_]) hw|exact (mK (.i (.l xK xA) (.a (.l xI (.s xA xM)) (.l (.s xA xM) (.s xA xI)))) [_]) hw)
theorem KM {w f:Nat} (h: ¬w+1<=r.length):rT w f r=[r]:=by
 cases f with
 |zero=>rfl
 |succ f=>rw [rT,if_neg h]
theorem BW (w:Nat) (hw:4<=w): ∀(f:Nat) (r:List Nat),r.length<=f->(rT w f r).length<=r.length+1/\(rT w f r).flatten.length<=2*r.length
 |0,r,h=>by simp [rT];exact mK (.l xA (.m 2 xA)) [_]
 |f+1,r,h=>by
  have hc:=Cj w r hw
  rw [rT]
  split
  ·have ih:=BW w hw f (r.drop (rk w r)) (by rw [bH];exact (mK (.i (.l xA (.a xC xI)) (.i (.l xI xB) (.l (.s xA xB) xC))) [_,_,_]) h hc.1)
   rw [bH] at ih
   simp only [aU,cu,af,dm,bQ]
   exact (mK (.i (.l xI xC) (.i (.l (.a xE xI) xB) (.i (.l xA (.a (.s xB xC) xI)) (.i (.l xD (.m 2 (.s xB xC))) (.a (.l (.a xA xI) (.a xB xI)) (.l (.a (.a (.n xC xB) (.a xJ xI)) xD) (.m 2 xB))))))) [_,_,_,_,_]) hc.1 (by assumption) ih.1 ih.2
  ·simp;exact mK (.l xA (.m 2 xA)) [_]
def qn (w:Nat) (T:List Nat):List (List Nat):=(Txt.lines (S T)).flatMap λx=>rT w x.length x.cps.toList
def wu (w:Nat) (T:List Nat):List (List Nat):=qn w T++if [13,10].contains (T.getLastD 0) then [[]] else []
def qX (w:Nat) (T Un:List Nat):List Nat:=(Txt.join (S Un) ((wu w T).map S)).cps.toList
def Q7 (T:List Nat):Prop:= ∀x∈Txt.lines (S T),[32,9].contains (x.cps.toList.getLastD 0)=false
theorem wD (w:Nat) (T:List Nat) (hw:4<=w) (k:Nat):(((Txt.lines (S T)).take k).flatMap λx=>rT w x.length x.cps.toList).length<=T.length+1/\(((Txt.lines (S T)).take k).flatMap λx=>rT w x.length x.cps.toList).flatten.length<=2*(T.length+1):=by
 have h:=fB (S T)
 rw [m6] at h
 have UK: ∀l:List Str,(l.flatMap λx=>rT w x.length x.cps.toList).length<=(l.map (·.length)).sum+l.length/\(l.flatMap λx=>rT w x.length x.cps.toList).flatten.length<=2*(l.map (·.length)).sum:=by
  intro l
  induction l with
  |nil=>simp
  |cons x l ih=>
   have e:x.cps.toList.length=x.length:=by simp [fJ]
   have:=BW w hw x.length x.cps.toList (by exact (mK (.i (.e xA xB) (.l xA xB)) [_,_]) e)
   rw [e] at this
   simp only [bh,af,eO,ba,eb,aU]
   exact (mK (.i (.l xB (.a xD xE)) (.i (.l xG (.m 2 xD)) (.i (.l xA (.a xC xI)) (.i (.l xF (.m 2 xC)) (.a (.l (.a xA xB) (.a (.a xC xD) (.a xE xI))) (.l (.a xF xG) (.m 2 (.a xC xD)))))))) [_,_,_,_,_,_,_]) ih.1 ih.2 this.1 this.2
 have h3: ∀(l:List Str) (k:Nat),((l.take k).map (·.length)).sum+(l.take k).length<=(l.map (·.length)).sum+l.length:=by
  intro l
  induction l with
  |nil=>intro k;simp
  |cons x l ih=>
   intro k
   cases k with
   |zero=>simp
   |succ k=>
    have:=ih k
    simp only [eN,ba,eb,aU]
    exact (mK (.i (.l (.a xB xC) (.a xD xE)) (.l (.a (.a xA xB) (.a xC xI)) (.a (.a xA xD) (.a xE xI)))) [_,_,_,_,_]) this
 have h1:=UK ((Txt.lines (S T)).take k)
 have h2:=h3 (Txt.lines (S T)) k
 exact (mK (.i (.l (.a xD xE) (.a xB xI)) (.i (.l xA (.a xF xG)) (.i (.l xC (.m 2 xF)) (.i (.l (.a xF xG) (.a xD xE)) (.a (.l xA (.a xB xI)) (.l xC (.m 2 (.a xB xI)))))))) [_,_,_,_,_,_,_]) h h1.1 h1.2 h2
theorem DN {mw:Nat} (hw:4<=mw):rN mJ w 2 89 [.str (S []),.int mw,.str (S Un)] (.str (S [])):=by
 refine uc ["body","maxlinelen","eol"] (ds:=[]) [] (Cr _) (λX h=>mR.nil) (λs vs B e=> ?_) (λA X g L lx G=> ?_)
 ·refine vA (vx e) λz z z Ub=> ?_;obtain rfl:=Ub;exact .of_defaults rfl (B.frag 82 KA (by kernel_rfl)) rfl (by with_unfolding_all rfl) (by with_unfolding_all rfl)
 ·refine nk (d:=decide ((mw:Int)<4)) (m8 (p:=.int mw) (q:=.int 4) ?_ ?_ rA) (λc=>absurd (of_decide_eq_true c) (by exact (mK (.i (.l xK xA) (.n (.B (.k xA) xK))) [_]) hw)) (λz=> ?_)
  ·walk_at "ev"
  ·walk_at "ev"
  refine nk (d:=ai) (vn (b:=false) (rF (p:=.str (S [])) ?_ (ub (by decide)))) (λz=> ?_) (λe=>by exact rI e)
  ·walk_at "ev"
  ·refine nt ?_
   walk_at "ev"
set_option maxHeartbeats 1000000 in
theorem Fo {mw:Nat} (Uu:body≠[]) (hb: ∀c∈body,c<256) (Uo:body.length<=300) (hE:Un.length<=2) (hw:4<=mw) (hw2:mw<=1000) (ht:Q7 (body.flatMap n5)):
  rN mJ w 2 89 [.str (S body),.int mw,.str (S Un)] (.str (S (qX mw (body.flatMap n5) Un))):=by
 refine uc ["body","maxlinelen","eol"] (ds:=[]) [] (Cr _) (λX h=>mR.nil) (λs vs B e=> ?_) (λA X g L lx G=> ?_)
 ·refine vA (vx e) λz z z Ub=> ?_;obtain rfl:=Ub;exact .of_defaults rfl (B.frag 82 KA (by kernel_rfl)) rfl (by with_unfolding_all rfl) (by with_unfolding_all rfl)
 ·have hz:=aw
  have hsum:(body.map λc=>(n5 c).length).sum<=3*body.length:=by
   clear Uu hb Uo ht
   induction body with
   |nil=>simp
   |cons c b ih=>
    have:=AW c
    simp only [ba,eb,aU]
    exact (mK (.i (.l xB (.m 3 xC)) (.i (.l xA xO) (.l (.a xA xB) (.m 3 (.a xC xI))))) [_,_,_]) ih this.2
  have XU:(body.flatMap n5).length<=900:=by rw [fZ];exact (mK (.i (.l xB (.c 300)) (.i (.l xA (.m 3 xB)) (.l xA (.c 900)))) [_,_]) Uo hsum
  have hTne:body.flatMap n5≠[]:=by
   cases body with
   |nil=>exact absurd rfl Uu
   |cons c b=>
    intro e
    have:=congrArg bj e
    rw [bh,af] at this
    have:=(AW c).1
    rw [bQ] at*
    exact (mK (.i (.e (.a xA xB) xJ) (.n (.l xI xA))) [_,_]) (by assumption) this
  have Xh:body.isEmpty=false:=by cases body with|nil=>exact absurd rfl Uu|cons=>rfl
  refine nk (d:=decide ((mw:Int)<4)) (m8 (p:=.int mw) (q:=.int 4) ?_ ?_ rA) (λc=>absurd (of_decide_eq_true c) (by exact (mK (.i (.l xK xA) (.n (.B (.k xA) xK))) [_]) hw)) (λz=> ?_)
  ·walk_at "ev"
  ·walk_at "ev"
  refine nk (d:= !!body.isEmpty) (vn (rF (p:=.str (S body)) ?_ (ub (by exact (mK (.i (.l xA (.c 300)) (.l xA (.c 1000000))) [_]) Uo)))) (λe=>by rw [Xh] at e;exact oW e) (λz=> ?_)
  ·walk_at "ev"
  refine mS (p:=.str (S (body.flatMap n5))) (ro (p:=.str (S body)) (T:="str") ?_ oy F.plainAttrs_str F.slot_str_translate F.type_str_translate (mM (p:=.list ((ag 256).map λk=>.str (S (n5 k)))) ?_ mP) (yF hb (by exact (mK (.i (.l xB (.c 300)) (.i (.l xA (.m 3 xB)) (.l xA (.c 100000)))) [_,_]) Uo hsum) (λc z=>(AW c).1))) ?_
  ·walk_at "ev"
  ·refine mW (wB (ps:=((ag 256).map n5).map λl=>.str (S l)) G.base (λh i=>G.offX i) G.gl G.fn (by kernel_rfl) TC ⟨rfl,_,rfl⟩ (λh=>yi RY)) ?_
   rw [aB];rfl
  generalize body.flatMap n5=T at*
  refine mS (p:=.str (S (61::Un))) (mQ (p:=.str (S [61])) (q:=.str (S Un)) (nh (by kernel_rfl)) ?_ (oG (by simp;exact (mK (.i (.l xA xM) (.i (.e xB xL) (.l (.a xI xA) xB))) [_,_]) hE hz))) ?_
  ·walk_at "ev"
  refine mS (p:=.int ((mw:Int) - 1)) (by walk_at "ev") ?_
  refine w1 λD gD nD=> ?_
  refine Gz (D:=D) (by walk_at "lk") ⟨_,.head _,rfl⟩ λm g1 k1 hm=> ?_
  have G1:=(G.addOwn D).at' k1
  let Vh:List (List Nat)->List PV:=λUD=>(UD.map S).map PV.str
  let Vs0:m7:=[("append",.raw (.ref m)),("encoded_body",.raw (.ref D)),("maxlinelen1",.int ((mw:Int) - 1)),("maxlinelen",.int mw),("body",.str (S T)),("eol",.str (S Un))]
  let UD:Nat->List (List Nat):=λk=>((Txt.lines (S T)).take k).flatMap λx=>rT mw x.length x.cps.toList
  have bound: ∀k,(UD k).length<=1000:=λk=>by have:=(wD mw T hw k).1;exact (mK (.i (.l xB (.c 900)) (.i (.l xA (.a xB xI)) (.l xA xQ))) [_,_]) XU this
  refine pf (σ':=Vs0) (by walk_at "has") ?_
  refine wv G1 (l:=Txt.lines (S T)) (V:=PV.str) (bs:=λx=>[("line",.str x)]) (λz=>Vs0) (λk=>[(D,Vh (UD k))])
   (qJ (rf (p:=.str (S T)) (T:="str") ?_ oy F.plainAttrs_str F.slot_str_splitlines F.type_str_splitlines (xo (by rw [m6];exact (mK (.i (.e xB xL) (.i (.l xA (.c 900)) (.l (.a xA xI) xB))) [_,_]) hz XU))) G1.room.1 (.inl ⟨_,_,rfl⟩) λb hb=>ax _ hb) rfl rfl (λa is z=>nZ) (λk a g' is hk G' kg=> ?_) ?_
  ·walk_at "ev"
  ·have hm':g'.get? m=aa (BA.bound D):=kg _ _ hm
   have hak:UD (k+1)=UD k++rT mw a.length a.cps.toList:=by
    show List.flatMap _ (List.take (k+1) _)=_
    rw [gA,hk];simp [UD]
   have b1:=bound (k+1)
   have hlw:=fB (S T)
   rw [m6] at hlw
   have VP:a.length<=901:=by
    have:a.length<=((Txt.lines (S T)).map (·.length)).sum:=xz (aK.mpr ⟨a,bu hk,rfl⟩)
    exact (mK (.i (.l xB (.c 900)) (.i (.l (.a xC xD) (.a xB xI)) (.i (.l xA xC) (.l xA (.c 901))))) [_,_,_,_]) XU hlw this
   have htr:=ht a (bu hk)
   have ea:a=S a.cps.toList:=rfl
   have el:a.length=a.cps.toList.length:=by simp [fJ]
   rw [el] at hak VP
   generalize a.cps.toList=ln at*
   subst ea
   generalize hfull:UD (k+1)=full at*
   generalize Wm:UD k=UI at*
   let Vl:m7:=("laststart",.int ((ln.length:Int) - 1 - mw))::("line",.str (S ln))::Vs0
   refine mS (p:=.int 0) mT ?_
   refine mS (p:=.int ((ln.length:Int) - 1 - mw)) (mQ (p:=.int ((ln.length:Int) - 1)) (q:=.int mw) (mQ (p:=.int (ln.length:Nat)) (q:=.int 1) (oq G' (ps:=[.str (S ln)]) (by kernel_rfl) (by kernel_rfl) (mM ?_ mP) (qB (uS (by rw [m6];exact (mK (.i (.l xA (.c 901)) (.l xA (.c 1000000))) [_]) VP)) (by rw [m6]))) mT nU) ?_ nU) ?_
   ·walk_at "ev"
   ·walk_at "ev"
   let Pw:Nat×List (List Nat)->Prop:=λq=>q.1<=ln.length/\ ∃f,ln.length - q.1<=f/\q.2++rT mw f (ln.drop q.1)=full
   refine pf (σ':=("start",.int ((0:Nat):Int))::Vl) (by walk_at "has") ?_
   refine C6 (ι:=Nat×List (List Nat)) Pw (λq=>("start",.int ((q.1:Nat):Int))::Vl) (λq=>[(D,Vh q.2)]) (λq=>ln.length - q.1) (λq=>decide (((q.1:Nat):Int)<=(ln.length:Int) - 1 - mw)) (0,UI) ⟨cx _,ln.length,by exact mK (.l (.s xA xB) xA) [_,_],by rw [eG];exact hak.symm⟩ rfl rfl (λq hq=> ?_) (λq hq WU=> ?_) (λq hq WU=> ?_)
   ·refine m8 (p:=.int (q.1:Nat)) (q:=.int ((ln.length:Int) - 1 - mw)) ?_ ?_ y8<;>walk_at "ev"
   ·obtain ⟨s,ac⟩:=q
    refine o8 hq λV9 f hf he=> ?_
    dsimp only at V9 hf he
    have hs:s+1+mw<=ln.length:=by have:=of_decide_eq_true WU;dsimp only at this;exact (mK (.i (.L (.k xA) (.s (.s (.k xC) xI) (.k xB))) (.l (.a (.a xA xI) xB) xC)) [_,_,_]) this
    have W4:(ln.drop s).length=ln.length - s:=bH
    obtain ⟨f,rfl⟩: ∃f',f=f'+1:=⟨f - 1,by exact (mK (.i (.l (.s xB xC) xA) (.i (.l (.a (.a xC xI) xD) xB) (.e xA (.a (.s xA xI) xI)))) [_,_,_,_]) hf hs⟩
    rw [rT,if_pos (by exact (mK (.i (.l (.a (.a xC xI) xA) xD) (.i (.e xB (.s xD xC)) (.l (.a xA xI) xB))) [_,_,_,_]) hs W4)] at he
    have XG:ac.length<=1000:=by have:=congrArg bj he;rw [af] at this;exact (mK (.i (.l xB xQ) (.i (.e (.a xA xC) xB) (.l xA xQ))) [_,_,_]) b1 this
    have hc:=Cj mw (ln.drop s) hw
    rw [List.drop_drop] at he
    have getd: ∀i,i<ln.length->ln[i]? =aa (ln.getD i 0):=λi hi=>by rw [aZ,aA hi];rfl
    have WR: ∀i,(ln.drop s).getD i 0=ln.getD (s+i) 0:=λi=>by rw [aZ,aZ,List.getElem?_drop]
    have snoc: ∀i,i<(ln.drop s).length->(ln.drop s).getD i 0=61->(ln.drop s).take (i+1)=(ln.drop s).take i++[61]:=λi hi h=>by
     rw [gA,aA hi]
     rw [aZ,aA hi] at h
     rw [show (ln.drop s)[i]=61 from h];rfl
    have tail: ∀k,rk mw (ln.drop s)=k->mZ mJ w ((Sc.addX (((m5 v5 89 A X [] g L).addOwn D).at g1) is).at g').env ((Sc.addX (((m5 v5 89 A X [] g L).addOwn D).at g1) is).at g').A
      (In ((Sc.addX (((m5 v5 89 A X [] g L).addOwn D).at g1) is).at g') (("start",.int ((s+k:Nat):Int))::Vl) [(D,Vh ac++[.str (S ((ln.drop s).take k++[61]))])]) [] (λfl h=>(fl= .next\/fl= .cont)/\ ∃j,Pw j/\ln.length - j.1<ln.length - (s,ac).1/\
       In ((Sc.addX (((m5 v5 89 A X [] g L).addOwn D).at g1) is).at g') (("start",.int ((j.1:Nat):Int))::Vl) [(D,Vh j.2)] h):=λk hk=>by
     subst hk
     refine sO λgg q=>⟨.inl rfl,(s+rk mw (ln.drop s),ac++[(ln.drop s).take (rk mw (ln.drop s))++[61]]),⟨by dsimp only;exact (mK (.i (.l (.a (.a xA xI) xD) xC) (.i (.l xB (.s xD xI)) (.l (.a xA xB) xC))) [_,_,_,_]) hs hc.2,f,by dsimp only;exact (mK (.i (.l (.s xA xB) (.a xD xI)) (.i (.l xI xC) (.l (.s xA (.a xB xC)) xD))) [_,_,_,_]) hf hc.1,by dsimp only;rw [aJ];exact he⟩,by dsimp only;exact (mK (.i (.l (.a (.a xB xI) xD) xA) (.i (.l xI xC) (.b (.s xA (.a xB xC)) (.s xA xB)))) [_,_,_,_]) hs hc.1,?_⟩
     rw [show Vh (ac++[(ln.drop s).take (rk mw (ln.drop s))++[61]])=Vh ac++[.str (S ((ln.drop s).take (rk mw (ln.drop s))++[61]))] by simp [Vh]]
     exact q
    have XH:(Vh ac).length<=bo:=by simp [Vh];exact (mK (.i (.e xB xL) (.i (.l xA xQ) (.l xA xB))) [_,_]) hz XG
    refine mS (p:=.int ((s+mw - 1:Nat):Int)) (mW (mQ (p:=.int ((s:Nat):Int)) (q:=.int ((mw:Int) - 1)) ?_ ?_ n6) (by exact congrArg _ ((mK (.i (.l xK xB) (.E (.a (.k xA) (.s (.k xB) xI)) (.k (.s (.a xA xB) xI)))) [_,_]) hw))) ?_
    ·walk_at "ev"
    ·walk_at "ev"
    refine nk (d:=([ln.getD (s+mw - 3) 0]==[61])) (m8 (p:=.str (S [ln.getD (s+mw - 3) 0])) (q:=.str (S [61])) (nA (p:=.str (S ln)) (q:=.int ((s+mw - 3:Nat):Int)) ?_ (mW (mQ (p:=.int ((s+mw - 1:Nat):Int)) (q:=.int 2) ?_ mT nU) (by exact congrArg _ ((mK (.i (.l xK xB) (.E (.s (.k (.s (.a xA xB) xI)) xM) (.k (.s (.a xA xB) xO)))) [_,_]) hw))) (qR (by exact mK (.L xJ (.k (.s (.a xA xB) xO))) [_,_]) (by rw [ca];exact getd _ (by exact (mK (.i (.l (.a (.a xA xI) xB) xC) (.b (.s (.a xA xB) xO) xC)) [_,_,_]) hs)) (by exact (mK (.i (.l xC (.c 901)) (.i (.l (.a (.a xA xI) xB) xC) (.B (.k (.s (.a xA xB) xO)) xS))) [_,_,_]) VP hs))) ?_ tm) (λc=> ?_) (λc=> ?_)
    ·walk_at "ev"
    ·walk_at "ev"
    ·exact nh (by kernel_rfl)
    ·have hx:(ln.drop s).getD (mw - 3) 0=61:=by
      rw [WR,show s+(mw - 3)=s+mw - 3 by exact (mK (.i (.l xK xB) (.e (.a xA (.s xB xO)) (.s (.a xA xB) xO))) [_,_]) hw]
      simpa using c
     have hk:rk mw (ln.drop s)=mw - 3:=by unfold rk;rw [if_pos hx]
     refine tN (D:=D) (m:=m) (l:=Vh ac) (p:=.str (S ((ln.drop s).take (mw - 3)++[61]))) hm' (by walk_at "lk") (mW (qE (l:=ln) (lo:=aa ((s:Nat):Int)) (hi:=aa ((s+mw - 2:Nat):Int)) ?_ (n8 ?_) (n8 (mW (mQ (p:=.int ((s+mw - 1:Nat):Int)) (q:=.int 1) ?_ mT nU) (by exact congrArg _ ((mK (.i (.l xK xB) (.E (.s (.k (.s (.a xA xB) xI)) xI) (.k (.s (.a xA xB) xM)))) [_,_]) hw)))) (by exact (mK (.i (.e xB xL) (.i (.l xA (.c 901)) (.l xA xB))) [_,_]) hz VP)) ?_) XH (λz h=>nomatch h) ?_
     ·walk_at "ev"
     ·walk_at "ev"
     ·walk_at "ev"
     ·rw [Bi,<-snoc _ (by exact (mK (.i (.l (.a (.a xC xI) xA) xD) (.i (.e xB (.s xD xC)) (.b (.s xA xO) xB))) [_,_,_,_]) hs W4) hx,show s+mw - 2 - s=mw - 3+1 by exact (mK (.i (.l xI xC) (.i (.e xC (.s xB xO)) (.e (.s (.s (.a xA xB) xM) xA) (.a (.s xB xO) xI)))) [_,_,_]) hc.1 hk]
     refine mS (p:=.int ((s+(mw - 3):Nat):Int)) (mW (mQ (p:=.int ((s+mw - 1:Nat):Int)) (q:=.int 2) ?_ mT nU) (by exact congrArg _ ((mK (.i (.l xK xB) (.E (.s (.k (.s (.a xA xB) xI)) xM) (.k (.a xA (.s xB xO))))) [_,_]) hw))) ?_
     ·walk_at "ev"
     exact pf (by walk_at "has") (tail _ hk)
    have hx3: ¬(ln.drop s).getD (mw - 3) 0=61:=by
     rw [WR,show s+(mw - 3)=s+mw - 3 by exact (mK (.i (.l xK xB) (.e (.a xA (.s xB xO)) (.s (.a xA xB) xO))) [_,_]) hw]
     intro h
     rw [h] at c
     exact rI c
    refine nk (d:=([ln.getD (s+mw - 2) 0]==[61])) (m8 (p:=.str (S [ln.getD (s+mw - 2) 0])) (q:=.str (S [61])) (nA (p:=.str (S ln)) (q:=.int ((s+mw - 2:Nat):Int)) ?_ (mW (mQ (p:=.int ((s+mw - 1:Nat):Int)) (q:=.int 1) ?_ mT nU) (by exact congrArg _ ((mK (.i (.l xK xB) (.E (.s (.k (.s (.a xA xB) xI)) xI) (.k (.s (.a xA xB) xM)))) [_,_]) hw))) (qR (by exact mK (.L xJ (.k (.s (.a xA xB) xM))) [_,_]) (by rw [ca];exact getd _ (by exact (mK (.i (.l (.a (.a xA xI) xB) xC) (.b (.s (.a xA xB) xM) xC)) [_,_,_]) hs)) (by exact (mK (.i (.l xC (.c 901)) (.i (.l (.a (.a xA xI) xB) xC) (.B (.k (.s (.a xA xB) xM)) xS))) [_,_,_]) VP hs))) ?_ tm) (λc=> ?_) (λc=> ?_)
    ·walk_at "ev"
    ·walk_at "ev"
    ·exact nh (by kernel_rfl)
    ·have hx:(ln.drop s).getD (mw - 2) 0=61:=by
      rw [WR,show s+(mw - 2)=s+mw - 2 by exact (mK (.i (.l xK xB) (.e (.a xA (.s xB xM)) (.s (.a xA xB) xM))) [_,_]) hw]
      simpa using c
     have hk:rk mw (ln.drop s)=mw - 2:=by unfold rk;rw [if_neg hx3,if_pos hx]
     refine tN (D:=D) (m:=m) (l:=Vh ac) (p:=.str (S ((ln.drop s).take (mw - 2)++[61]))) hm' (by walk_at "lk") (mW (qE (l:=ln) (lo:=aa ((s:Nat):Int)) (hi:=aa ((s+mw - 1:Nat):Int)) ?_ (n8 ?_) (n8 ?_) (by exact (mK (.i (.e xB xL) (.i (.l xA (.c 901)) (.l xA xB))) [_,_]) hz VP)) ?_) XH (λz h=>nomatch h) ?_
     ·walk_at "ev"
     ·walk_at "ev"
     ·walk_at "ev"
     ·rw [Bi,<-snoc _ (by exact (mK (.i (.l (.a (.a xC xI) xA) xD) (.i (.e xB (.s xD xC)) (.b (.s xA xM) xB))) [_,_,_,_]) hs W4) hx,show s+mw - 1 - s=mw - 2+1 by exact (mK (.i (.l xI xC) (.i (.e xC (.s xB xM)) (.e (.s (.s (.a xA xB) xI) xA) (.a (.s xB xM) xI)))) [_,_,_]) hc.1 hk]
     refine mS (p:=.int ((s+(mw - 2):Nat):Int)) (mW (mQ (p:=.int ((s+mw - 1:Nat):Int)) (q:=.int 1) ?_ mT nU) (by exact congrArg _ ((mK (.i (.l xK xB) (.E (.s (.k (.s (.a xA xB) xI)) xI) (.k (.a xA (.s xB xM))))) [_,_]) hw))) ?_
     ·walk_at "ev"
     exact pf (by walk_at "has") (tail _ hk)
    ·have Xb: ¬(ln.drop s).getD (mw - 2) 0=61:=by
      rw [WR,show s+(mw - 2)=s+mw - 2 by exact (mK (.i (.l xK xB) (.e (.a xA (.s xB xM)) (.s (.a xA xB) xM))) [_,_]) hw]
      intro h
      rw [h] at c
      exact rI c
     have hk:rk mw (ln.drop s)=mw - 1:=by unfold rk;rw [if_neg hx3,if_neg Xb]
     refine tN (D:=D) (m:=m) (l:=Vh ac) (p:=.str (S ((ln.drop s).take (mw - 1)++[61]))) hm' (by walk_at "lk") (mQ (p:=.str (S ((ln.drop s).take (mw - 1)))) (q:=.str (S [61])) (mW (qE (l:=ln) (lo:=aa ((s:Nat):Int)) (hi:=aa ((s+mw - 1:Nat):Int)) ?_ (n8 ?_) (n8 ?_) (by exact (mK (.i (.e xB xL) (.i (.l xA (.c 901)) (.l xA xB))) [_,_]) hz VP)) ?_) ?_ (oG ?_)) XH (λz h=>nomatch h) ?_
     ·walk_at "ev"
     ·walk_at "ev"
     ·walk_at "ev"
     ·rw [Bi,show s+mw - 1 - s=mw - 1 by exact mK (.e (.s (.s (.a xA xB) xI) xA) (.s xB xI)) [_,_]]
     ·exact nh (by kernel_rfl)
     ·rw [dm];simp;exact (mK (.i (.e xD xL) (.i (.l xB (.c 901)) (.l (.a (.n (.s xA xI) (.s xB xC)) xI) xD))) [_,_,_,_]) hz VP
     refine mS (p:=.int ((s+(mw - 1):Nat):Int)) (mW (p:=.int ((s+mw - 1:Nat):Int)) ?_ (by exact congrArg _ ((mK (.i (.l xK xB) (.E (.k (.s (.a xA xB) xI)) (.k (.a xA (.s xB xI))))) [_,_]) hw))) ?_
     ·walk_at "ev"
     exact pf (by walk_at "has") (tail _ hk)
   ·obtain ⟨s,ac⟩:=q
    refine o8 hq λV9 f hf he=> ?_
    dsimp only at V9 hf he
    have hs: ¬mw+1<=(ln.drop s).length:=by rw [bH];have:=of_decide_eq_false WU;dsimp only at this;exact (mK (.i (.n (.L (.k xC) (.s (.s (.k xB) xI) (.k xA)))) (.n (.l (.a xA xI) (.s xB xC)))) [_,_,_]) this
    rw [KM hs] at he
    have XG:ac.length<=1000:=by have:=congrArg bj he;rw [af] at this;exact (mK (.i (.l xB xQ) (.i (.e (.a xA xC) xB) (.l xA xQ))) [_,_,_]) b1 this
    have XH:(Vh ac).length<=bo:=by simp [Vh];exact (mK (.i (.e xB xL) (.i (.l xA xQ) (.l xA xB))) [_,_]) hz XG
    refine nk (d:=(!ln.isEmpty)&&(false&&ai)) (BN (rH (rF (p:=.str (S ln)) ?_ (ub (by exact (mK (.i (.l xA (.c 901)) (.l xA (.c 1000000))) [_]) VP))) λUu=>rH (m8 (p:=.str (S [ln.getLastD 0])) (q:=.str (S [32,9])) (nA (p:=.str (S ln)) (q:=.int (-1)) ?_ (r7 (p:=.int 1) mT oU) (tM ?_)) ?_ (te wX ?_)) λh=>by exact oW h)) (λc=> ?_) (λc=> ?_)
    ·walk_at "ev"
    ·walk_at "ev"
    ·have hln:ln≠[]:=by rintro rfl;exact oW Uu
     have h0:ln.getLast? =aa (ln.getLast hln):=c7 hln
     rw [gv,h0];rfl
    ·exact nh (by kernel_rfl)
    ·rw [tc,htr]
    ·rw [jP,iq] at c;exact oW c
    ·refine tN (D:=D) (m:=m) (l:=Vh ac) (p:=.str (S (ln.drop s))) hm' (by walk_at "lk") (mW (qE (l:=ln) (lo:=aa ((s:Nat):Int)) (hi:=az) ?_ (n8 ?_) rO (by exact (mK (.i (.e xB xL) (.i (.l xA (.c 901)) (.l xA xB))) [_,_]) hz VP)) (by rw [QE])) XH (λz h=>nomatch h) (sw ?_ ?_)
     ·walk_at "ev"
     ·walk_at "ev"
     ·walk_at "has"
     ·rw [<-he]
      simp [Vh]
  ·have e1:UD (Txt.lines (S T)).length=qn mw T:=by
    show List.flatMap _ (List.take _ _)=_
    rw [bF (aN _)];rfl
   have bl:=wD mw T hw (Txt.lines (S T)).length
   rw [bF (aN _)] at bl
   have bl1:(qn mw T).length<=T.length+1:=bl.1
   have bl2:(qn mw T).flatten.length<=2*(T.length+1):=bl.2
   rw [e1]
   have Uz:T.getLast? =aa (T.getLastD 0):=by
    have h0:T.getLast? =aa (T.getLast hTne):=c7 hTne
    rw [gv,h0];rfl
   have XH:(Vh (qn mw T)).length<=bo:=by simp [Vh];exact (mK (.i (.e xB xL) (.i (.l xC (.c 900)) (.i (.l xA (.a xC xI)) (.l xA xB)))) [_,_,_]) hz XU bl1
   have qx: ∀l,l=wu mw T->mZ mJ w (((m5 v5 89 A X [] g L).at g1).addOwn D).env (((m5 v5 89 A X [] g L).at g1).addOwn D).A (In (((m5 v5 89 A X [] g L).at g1).addOwn D) Vs0 [(D,Vh l)]) ((n7 (nV 22)).drop 9) (uD g X (.str (S (qX mw T Un)))):=λl hl=>by
    subst hl
    refine w4 (c:=(m5 v5 89 A X [] g L).at g1) "encoded_body" (by walk_at "lk") (λz h=>nomatch h) nD ?_
    refine nt (he:= ?_) (hg:=k1)
    refine ro (p:=.str (S Un)) (T:="str") ?_ oy F.plainAttrs_str F.slot_str_join F.type_str_join (mM (p:=.list (((wu mw T).map S).map PV.str)) ?_ mP) (qB (vZ (ud ?_)) rfl)
    ·walk_at "ev"
    ·walk_at "ev"
    ·unfold wu
     have Vg:(if [13,10].contains (T.getLastD 0)=ai then [([]:List Nat)] else []).length<=1/\(if [13,10].contains (T.getLastD 0)=ai then [([]:List Nat)] else []).flatten.length=0:=by split<;>simp
     rw [eO,af,af]
     have:((qn mw T).length+(if [13,10].contains (T.getLastD 0)=ai then [([]:List Nat)] else []).length)*Un.length<=2000*2:=gr (by exact (mK (.i (.l xC (.c 900)) (.i (.l xA (.a xC xI)) (.i (.l xB xI) (.l (.a xA xB) (.c 2000))))) [_,_,_]) XU bl1 Vg.1) hE
     exact (mK (.i (.l xD (.c 900)) (.i (.l xA (.m 2 (.a xD xI))) (.i (.e xB xJ) (.i (.l xC (.m 2000 xM)) (.l (.a (.a xA xB) xC) (.c 1000000)))))) [_,_,_,_]) XU bl2 Vg.2 this
   refine nk (d:=[13,10].contains (T.getLastD 0)) (m8 (p:=.str (S [T.getLastD 0])) (q:=.str (S [13,10])) (nA (p:=.str (S T)) (q:=.int (-1)) ?_ (r7 (p:=.int 1) mT oU) (tM Uz)) (ui G1 (v:=.str (S [13,10]) 289) (by kernel_rfl) λz=>ou) (te wX (by rw [tc]))) (λc=> ?_) (λc=> ?_)
   ·walk_at "ev"
   ·refine tN (D:=D) (m:=m) (l:=Vh (qn mw T)) (p:=.str (S [])) hm (by walk_at "lk") (nh (by kernel_rfl)) XH (λz h=>nomatch h) ?_
    have:=qx (qn mw T++[[]]) (by unfold wu;rw [if_pos c])
    rw [show Vh (qn mw T++[[]])=Vh (qn mw T)++[.str (S [])] by simp [Vh]] at this
    exact this
   ·exact qx (qn mw T) (by unfold wu;rw [if_neg (by rw [c];exact dz),bK])
end
section
variable {w:au}
def vD (b:Bool) (c:Nat):Bool:= !(if b then Hq c else vf c)
theorem JV (b:ox P h):rK h 159 uA/\ ∃o,h.get? 159=aa o/\o.cls= .type "re.Pattern":=⟨O4 b,_,b.frag 159 HU (by kernel_rfl),rfl⟩
theorem y5 (b:ox P h):rK h 164 ph/\ ∃o,h.get? 164=aa o/\o.cls= .type "re.Pattern":=⟨OZ b,_,b.frag 164 CA (by kernel_rfl),rfl⟩
theorem zl (hv: ∀c∈T,vD b c=ai) (hT:T.length<=1000):uX w 1 194 H [.str (S T)] [("name",.bool b)] (.str (S T)):=by
 refine tx ["self","value","name"] (ds:=[]) [] (zO _) (λX h=>mR.nil) (λs x vs us B e e'=> ?_) (λA X g L a lx hH G=> ?_)
 ·refine eE (vr e) λv Ub=>eE (vr e') λu q2z=> ?_;obtain rfl:=Ub;obtain rfl:=q2z;exact .of_eq (by kernel_rfl!)
 ·refine nk (d:=ai) (m8 (p:=.raw (.type "str")) (q:=.raw (.type "str")) (oq G (ps:=[.str (S T)]) (by kernel_rfl) (by kernel_rfl) (mM ?_ mP) zh (.inr ⟨_,rfl⟩)) (r6 G (v:=.type "str") (by kernel_rfl) (by kernel_rfl)) (De rfl)) (λz=> ?_) (λe=>by exact rI e)
  ·walk_at "ev"
  have WT:yo (bk (if b then uA else ph) T.toArray 0 0 T.toArray.size false):=by
   have UK: ∀i,i<T.toArray.size->(if b then Hq (T.toArray.getD i 0) else vf (T.toArray.getD i 0))=false:=λi hi=>by
    have hi':i<T.length:=by simpa using hi
    have:T.toArray.getD i 0∈T:=by
     rw [pW,aZ,aA hi']
     exact dn hi'
    simpa [vD] using hv _ this
   cases b with
   |true=>exact Qb UK
   |false=>exact QL UK
  refine mS (p:=.raw (.ref (if b then 159 else 164))) (D0 (c:=b) (rF (p:=.bool b) ?_ qA) (λe=> ?_) (λe=> ?_)) ?_
  ·walk_at "ev"
  ·subst e;exact ul G (by kernel_rfl)
  ·subst e;exact ul G (by kernel_rfl)
  refine nk (d:=false) (rF (p:=.none) ?_ Ja) (λe=>by exact oW e) (λz=> ?_)
  ·cases b with
   |true=>exact ya G (T:="re.Pattern") (by walk_at "ev") (show (KB w.params).lookup 159=aa HU by kernel_rfl) rfl rfl Pat.plainAttrs Pat.slot_search Pat.type_search (mM (by walk_at "ev") mP) (wW (λh i=>JV (G.inBase h i)) hT WT)
   |false=>exact ya G (T:="re.Pattern") (by walk_at "ev") (show (KB w.params).lookup 164=aa CA by kernel_rfl) rfl rfl Pat.plainAttrs Pat.slot_search Pat.type_search (mM (by walk_at "ev") mP) (wW (λh i=>y5 (G.inBase h i)) hT WT)
  refine nt ?_
  walk_at "ev"
end
section
variable {w:au}
def oS (x:List Nat):List Nat:=(Txt.lower (S x)).cps.toList
theorem DF (hl:l.length<=1000):uX w 1 245 (sn l) [] [] (.list (l.map λq=>.str (S q.1))):=by
 refine tx ["self"] (ds:=[]) [] (Iw _) (λX h=>mR.nil) (λs x vs us B e e'=> ?_) (λA X g L a lx hH G=> ?_)
 ·obtain rfl:=aY.mp e;obtain rfl:=aY.mp e';exact .of_eq (by kernel_rfl!)
 ·refine vW hH λd D vs t UL hr=> ?_
  have hz:=aw
  refine nt ?_
  refine mW (pQ (l:=l) (V:=λq=>.tup [.str (S q.1),.str (S q.2)]) (bs:=λq=>[("v",.str (S q.2)),("k",.str (S q.1))]) (cl:=[]) [] (λz=>ai) (λq=>.str (S q.1))
   (ug (uP G (by walk_at "ev") t) UL hr G.room.1 (.inr ⟨⟨_,_,_,rfl⟩,?_⟩) (λz h=>nomatch h)) nR (λq C g Ug z=>re G.room.1) (λq C g Ug z z z=>ot) (λq C g Ug z z z z=> ?_) (by exact (mK (.i (.l xA xQ) (.i (.e xB xL) (.l xA xB))) [_,_]) hl hz) (λz z=>rfl) rfl trivial rfl ?_) (by rw [bW.mpr (λz z=>rfl)])
  ·intro p hp
   obtain ⟨q,_,rfl⟩:=aK.mp hp
   exact ⟨_,rfl⟩
  ·walk_at "ev"
  ·decide+kernel
theorem GE (hl:l.length<=1000):uX w 1 250 (sn l) [] [] (.list (l.map λq=>.str (S q.2))):=by
 refine tx ["self"] (ds:=[]) [] (Ny _) (λX h=>mR.nil) (λs x vs us B e e'=> ?_) (λA X g L a lx hH G=> ?_)
 ·obtain rfl:=aY.mp e;obtain rfl:=aY.mp e';exact .of_eq (by kernel_rfl!)
 ·refine vW hH λd D vs t UL hr=> ?_
  have hz:=aw
  refine nt ?_
  refine mW (pQ (l:=l) (V:=λq=>.tup [.str (S q.1),.str (S q.2)]) (bs:=λq=>[("v",.str (S q.2)),("k",.str (S q.1))]) (cl:=[]) [] (λz=>ai) (λq=>.str (S q.2))
   (ug (uP G (by walk_at "ev") t) UL hr G.room.1 (.inr ⟨⟨_,_,_,rfl⟩,?_⟩) (λz h=>nomatch h)) nR (λq C g Ug z=>re G.room.1) (λq C g Ug z z z=>ot) (λq C g Ug z z z z=> ?_) (by exact (mK (.i (.l xA xQ) (.i (.e xB xL) (.l xA xB))) [_,_]) hl hz) (λz z=>rfl) rfl trivial rfl ?_) (by rw [bW.mpr (λz z=>rfl)])
  ·intro p hp
   obtain ⟨q,_,rfl⟩:=aK.mp hp
   exact ⟨_,rfl⟩
  ·walk_at "ev"
  ·decide+kernel
theorem yn (hl:l.length<=1000):uX w 1 257 (sn l) [] [] (.list (hp l)):=by
 refine tx ["self"] (ds:=[]) [] (DV _) (λX h=>mR.nil) (λs x vs us B e e'=> ?_) (λA X g L a lx hH G=> ?_)
 ·obtain rfl:=aY.mp e;obtain rfl:=aY.mp e';exact .of_eq (by kernel_rfl!)
 ·refine vW hH λd D vs t UL hr=> ?_
  have hz:=aw
  refine nt ?_
  exact Mt (uP G (by walk_at "ev") t) UL hr (by unfold hp;rw [ah];exact (mK (.i (.l xA xQ) (.i (.e xB xL) (.l xA xB))) [_,_]) hl hz)
def xa (l:HP) (nm:List Nat):PV:=match l[l.findIdx λq=>oS q.1==oS nm]? with|some q=>.str (S q.2)|none=>.none
def yZ (x:List Nat):Prop:=x.length<=100/\(∀c∈oS x,vD ai c=ai)/\(oS x).length<=1000/\gy (Txt.lower (S x)).length=false
theorem EP {l:HP} {nm:List Nat} (hl:l.length<=1000) (hn:yZ nm) (hk: ∀q∈l,yZ q.1):uX w 2 240 (sn l) [.str (S nm)] [] (xa l nm):=by
 refine tx ["self","name","default"] (ds:=[.none]) [.none] (Jn _) (λX h=>mR.cons Ca mR.nil) (λs x vs us B e e'=> ?_) (λA X g L a lx hH G=> ?_)
 ·refine eE (vr e) λv Ub=> ?_;obtain rfl:=Ub;obtain rfl:=aY.mp e';exact .of_defaults rfl (B.frag 233 LY (by kernel_rfl)) rfl (by with_unfolding_all rfl) (by with_unfolding_all rfl)
 ·refine vW (id hH) λd D vs t UL hr=> ?_
  have hz:=aw
  refine Ct hn λhn1 hn2 hn3 hn4=> ?_
  refine mS (p:=.str (S (oS nm))) (B7 G (l:=l) (BK (by walk_at "ev") hH) (zl (T:=oS nm) hn2 hn3) (by kernel_rfl) (zO _).e (by kernel_rfl) (by kernel_rfl)
   (mM (rf (p:=.str (S nm)) (T:="str") (by walk_at "ev") oy F.plainAttrs_str F.slot_str_lower F.type_str_lower (vk hn4)) mP) (yf sN)) ?_
  let Vs:m7:=[("name",.str (S (oS nm))),("default",.none)]
  let Vx:m7:=[("?",.none)]
  generalize hf:(l.findIdx λq=>oS q.1==oS nm)=f
  refine pf (σ':=if 0<=f then ("self",.raw (.ref a))::Vs else Vx) (by rw [if_pos (cx _)];walk_at "has") ?_
  refine wv G (l:=l) (V:=λq=>.tup [.str (S q.1),.str (S q.2)]) (bs:=λq=>[("v",.str (S q.2)),("k",.str (S q.1))]) (λi=>if i<=f then ("self",.raw (.ref a))::Vs else Vx) (λz=>[])
   (ug (uP G (by rw [if_pos (cx _)];walk_at "ev") t) UL hr G.room.1 (.inr ⟨⟨_,_,_,rfl⟩,?_⟩) (λb hb=>hb)) rfl rfl (λq is z=>re G.room.1) (λi q g' is hq G' kg=> ?_) ?_
  ·intro p hp
   obtain ⟨q,_,rfl⟩:=aK.mp hp
   exact ⟨_,rfl⟩
  ·by_cases hi:i<=f
   ·rw [if_pos hi]
    have hkq:=hk q (bu hq)
    refine nk (d:=(oS q.1==oS nm)) (m8 (p:=.str (S (oS q.1))) (q:=.str (S (oS nm))) (rf (p:=.str (S q.1)) (T:="str") (by walk_at "ev") oy F.plainAttrs_str F.slot_str_lower F.type_str_lower (vk hkq.2.2.2)) ?_ tm) (λe=> ?_) (λe=> ?_)
    ·walk_at "ev"
    ·have XJ:i=f:=by
      rcases dI i f with h|h
      ·have Ux:=(aT.mp hq).1
       have:=List.not_of_lt_findIdx (p:=λq:List Nat×List Nat=>oS q.1==oS nm) (xs:=l) (by rw [hf];exact h)
       rw [(aT.mp hq).2] at this
       rw [e] at this;exact rI this
      ·exact (mK (.i (.l xA xB) (.i (.l xB xA) (.e xA xB))) [_,_]) hi h
     have eg:xa l nm= .str (S q.2):=by unfold xa;rw [hf,<-XJ,hq]
     rw [eg]
     refine Lu ?_ kg (λb hb=>aM _ (aM _ hb))
     walk_at "ev"
    ·have XJ:i+1<=f:=by
      rcases dI i f with h|h
      ·exact h
      ·have XJ:i=f:=by exact (mK (.i (.l xA xB) (.i (.l xB xA) (.e xA xB))) [_,_]) hi h
       have Ux:=(aT.mp hq).1
       have:=ll (p:=λq:List Nat×List Nat=>oS q.1==oS nm) (xs:=l) (w:=by rw [hf,<-XJ];exact Ux)
       have e2:=(aT.mp hq).2
       simp only [hf,<-XJ,e2] at this
       rw [e] at this;exact oW this
     rw [if_pos XJ]
     exact qT (by walk_at "has")
   ·rw [if_neg hi]
    exact Bq (x:="?") (by walk_at "lk") (by kernel_rfl)
  ·by_cases hi:l.length<=f
   ·rw [if_pos hi]
    have eg:xa l nm= .none:=by unfold xa;rw [hf,List.getElem?_eq_none hi]
    rw [eg]
    refine nt ?_
    walk_at "ev"
   ·rw [if_neg hi]
    exact Bq (x:="?") (by walk_at "lk") (by kernel_rfl)
end
section
variable {w:au}
theorem Gf (hl:l.length<=1000) (hn:yZ nm) (hk: ∀q∈l,yZ q.1):uX w 2 232 (sn l) [.str (S nm)] [] (.list ((l.filter λq=>oS q.1==oS nm).map λq=>.str (S q.2))):=by
 refine tx ["self","name"] (ds:=[]) [] (Ni _) (λX h=>mR.nil) (λs x vs us B e e'=> ?_) (λA X g L a lx hH G=> ?_)
 ·refine eE (vr e) λv Ub=> ?_;obtain rfl:=Ub;obtain rfl:=aY.mp e';exact .of_eq (by kernel_rfl!)
 ·refine vW (id hH) λd D vs t UL hr=> ?_
  have hz:=aw
  refine Ct hn λhn1 hn2 hn3 hn4=> ?_
  refine mS (p:=.str (S (oS nm))) (B7 G (l:=l) (BK (by walk_at "ev") hH) (zl (T:=oS nm) hn2 hn3) (by kernel_rfl) (zO _).e (by kernel_rfl) (by kernel_rfl)
   (mM (rf (p:=.str (S nm)) (T:="str") (by walk_at "ev") oy F.plainAttrs_str F.slot_str_lower F.type_str_lower (vk hn4)) mP) (yf sN)) ?_ (.inr ⟨L+1,vi rfl (by kernel_rfl) (by kernel_rfl)⟩)
  refine nt ?_
  refine pQ (l:=l) (V:=λq=>.tup [.str (S q.1),.str (S q.2)]) (bs:=λq=>[("kv",.tup [.str (S q.1),.str (S q.2)])]) (cl:=[("name",L+1)]) [("name",.str (S (oS nm)))] (λq=>oS q.1==oS nm) (λq=>.str (S q.2))
   (ug (uP G (by walk_at "ev") t) UL hr G.room.1 (.inl ⟨_,_,rfl⟩) (λz h=>nomatch h)) (oa nR (by walk_at "lk") (.inl rfl) (λz=>by kernel_rfl) (λz=>.inl (by kernel_rfl))) (λq C g Ug z=>nZ) (λq C g Ug hq z z=>yQ ?_) (λq C g Ug hq z z z=> ?_) (by exact (mK (.i (.l xA xQ) (.i (.e xB xL) (.l xA xB))) [_,_]) hl hz) (λz z=>by kernel_rfl) (by kernel_rfl) ⟨by kernel_rfl,trivial⟩ rfl ?_
  ·refine m8 (p:=.str (S (oS q.1))) (q:=.str (S (oS nm))) (rf (p:=.str (S q.1)) (T:="str") (nA (p:=.tup [.str (S q.1),.str (S q.2)]) (q:=.int 0) ?_ mT (rS (by exact mK (.L xJ xJ) [] []) rfl (by exact mK (.B xJ xS) []))) oy F.plainAttrs_str F.slot_str_lower F.type_str_lower (vk (hk q hq).2.2.2)) ?_ tm
   ·walk_at "ev"
   ·walk_at "ev"
  ·refine nA (p:=.tup [.str (S q.1),.str (S q.2)]) (q:=.int 1) ?_ mT (rS (by exact mK (.L xJ xI) [] []) rfl (by exact mK (.B xI xS) []))
   walk_at "ev"
  ·decide+kernel
end
section
variable {w:au}
noncomputable def yt (l:HP):List (List Nat):=(l.map λq=>q.1++58::32::q.2)++[[],[]]
def oI (l:HP):List Nat:=(Txt.join (S [13,10]) ((yt l).map S)).cps.toList
def E9 (l:HP):Prop:=l.length<=100/\ ∀q∈l,q.1.length<=100/\q.2.length<=100
theorem Ks (h:E9 l):(yt l).flatten.length<=30000/\(yt l).length<=102:=by
 have UK: ∀l:HP,(∀q∈l,q.1.length<=100/\q.2.length<=100)->(l.map λq=>q.1++58::32::q.2).flatten.length<=202*l.length:=by
  intro l
  induction l with
  |nil=>intro _;decide
  |cons q l ih=>
   intro h
   have h1:=h q (.head _)
   have h2:=ih λq' hq=>h q' (.tail _ hq)
   simp only [ba,cu,af,aU]
   exact (mK (.i (.l xA xP) (.i (.l xB xP) (.i (.l xC (.m 202 xD)) (.l (.a (.a xA (.a (.a xB xI) xI)) xC) (.m 202 (.a xD xI)))))) [_,_,_,_]) h1.1 h1.2 h2
 have h1:=UK l h.2
 have h2:=h.1
 unfold yt
 simp only [eO,af,cu,List.flatten_nil,bQ,ah,aU]
 exact (mK (.i (.l xA (.m 202 xB)) (.i (.l xB xP) (.a (.l (.a xA (.a xJ (.a xJ xJ))) (.c 30000)) (.l (.a xB (.a (.a xJ xI) xI)) (.c 102))))) [_,_]) h1 h2
theorem JX (h:E9 l):uX w 1 269 (sn l) [] [] (.str (S (oI l))):=by
 refine tx ["self"] (ds:=[]) [] (RQ _) (λX h=>mR.nil) (λs x vs us B e e'=> ?_) (λA X g L a lx hH G=> ?_)
 ·obtain rfl:=aY.mp e;obtain rfl:=aY.mp e';exact .of_eq (by kernel_rfl!)
 ·refine vW hH λd D vs t UL hr=> ?_
  have hz:=aw
  have hl:=h.1
  have hs:=Ks h
  refine nt ?_
  refine ro (p:=.str (S [13,10])) (T:="str") ?_ oy F.plainAttrs_str F.slot_str_join F.type_str_join (mM (p:=.list (((yt l).map S).map PV.str)) ?_ mP) (qB (vZ (ud ?_)) rfl)
  ·exact nh (by kernel_rfl)
  ·refine mW (mQ (p:=.list ((l.filter λz=>ai).map λq=>.str (S (q.1++58::32::q.2)))) (q:=.list [.str (S []),.str (S [])]) (pQ (l:=l) (V:=λq=>.tup [.str (S q.1),.str (S q.2)]) (bs:=λq=>[("kv",.tup [.str (S q.1),.str (S q.2)])]) (cl:=[]) [] (λz=>ai) (λq=>.str (S (q.1++58::32::q.2)))
    (ug (uP G (by walk_at "ev") t) UL hr G.room.1 (.inl ⟨_,_,rfl⟩) (λz h=>nomatch h)) nR (λq C g Ug z=>nZ) (λq C g Ug z z z=>ot) (λq C g Ug hq z z z=> ?_) (by exact (mK (.i (.e xB xL) (.i (.l xA xP) (.l xA xB))) [_,_]) hz hl) (λz z=>rfl) rfl trivial rfl ?_) (qo (mM ?_ (mM ?_ mP)) (by simp;exact (mK (.i (.e xA xL) (.l xM xA)) [_]) hz)) (pV ?_)) ?_
   ·refine mQ (p:=.str (S [37,115,58,32,37,115])) (q:=.tup [.str (S q.1),.str (S q.2)]) (nh (by kernel_rfl)) ?_ (Mb ?_ ?_)
    ·walk_at "ev"
    ·have:=h.2 q hq;exact (mK (.i (.l xA xP) (.l xA (.c 1000000))) [_]) this.1
    ·have:=h.2 q hq;exact (mK (.i (.l xA xP) (.l xA (.c 1000000))) [_]) this.2
   ·decide+kernel
   ·exact nh (by kernel_rfl)
   ·exact nh (by kernel_rfl)
   ·rw [bW.mpr (λz z=>rfl),ah];simp;exact (mK (.i (.e xB xL) (.i (.l xA xP) (.l (.a xA xM) xB))) [_,_]) hz hl
   ·rw [bW.mpr (λz z=>rfl)]
    simp [yt]
  ·simp only [aU,bQ];omega
end
section
variable {w:au}
def Fu (l:HP):Prop:=l.length<=100/\ ∀q∈l,(q.1.length<=100/\ ∀c∈q.1,vD ai c=ai)/\(q.2.length<=100/\ ∀c∈q.2,vD false c=ai)
theorem DE (he:Ev mJ w (fs c σ Λ) o (.raw (.ref a))) (t:oX c.g a d D):tO mJ w (fs c σ Λ) o (λh a=> ∃d D,oX h a d D):=.mk λs i=>
 ab (he.run s i) (λv Ua uu=>eA uu λUc Uf=>by
  subst Uf
  exact ⟨Uc,a,rfl,d,D,t.keep (i.mono (mN Uc)).keep⟩) λz z e=>e
theorem zG (G:Gd w 1 c) (ho:Ev mJ w (fs c σ Λ) o (.raw (.ref a))) (t:oX c.g a d D)
  (he:Ev mJ w (fs c σ Λ) e (.str (S T))) (hv:Ev mJ w (fs c σ Λ) v (.bool b)) (h1: ∀c∈T,vD b c=ai) (h2:T.length<=1000)
  (V5:autoParam (bJ (.Call (.Attribute o "_convert_string_type" ap) [e] [⟨aa "name",v,p⟩] pos) c.env=(do
   let ov <-bJ o c.env
   iv ap.atName
   let (f,first) <-gW [ov] (hZ ov "_convert_string_type" pl)
   gJ pos f first (fb pos (aE [e] c.env)) (cN pos (bR [⟨aa "name",v,p⟩] c.env)))) X1)
  (U1:autoParam (aE [e] c.env=(false,bJ e c.env)::aE [] c.env) X1):
  Ev mJ w (fs c σ Λ) (.Call (.Attribute o "_convert_string_type" ap) [e] [⟨aa "name",v,p⟩] pos) (.str (S T)):=.mk λs i=>
 (NE G (DE ho t) (λz z t=>t) (λz z z uu k=>rU uu λd D t=>⟨d,D,t.keep k⟩) (by kernel_rfl) (zO _).e (by kernel_rfl) (by kernel_rfl) (mM he mP U1) (yf hv)
  (λa=>zl (H:=λz h a=> ∃d D,oX h a d D) h1 h2 c.A c.X _ a G.room (λh i=>G.inBase h i.1) (G.offX i) (λh i=>i.2)) V5 U1).run s i
theorem Dg (ok:Fu l) (G:Gd w 1 ((m5 tF 187 A (dx::X) [] g L).at g2)) (hx:g2.get? x=aa (gd 293 dx)) (hd:g2.get? dx=aa cA)
  (V9:dx≠iZ) (WL:dx≠dh) (hl:g2.IsList D vs.toArray) (hr:mR (dx::X) g2 (hp l) vs) (h1:σ.lookup ("self":Str)=aa (.raw (.ref x))) (h2:σ.lookup ("headers":Str)=aa (.raw (.ref D))):
  mZ mJ w ((m5 tF 187 A (dx::X) [] g L).at g2).env ((m5 tF 187 A (dx::X) [] g L).at g2).A (In ((m5 tF 187 A (dx::X) [] g L).at g2) σ []) ((n7 (pe 0)).drop 1)
   (λfl h=>BO fl= .none/\oV [dx] g2 h/\oX h x dx D):=by
 refine nk (d:=false) (m8 (p:=.raw (.type "list")) (q:=.raw (.type "list")) (oq G (v:=.type "type") (ps:=[.raw (.ref D)]) (by kernel_rfl) (by kernel_rfl) (mM (nF h2) mP) (λs us i z r=> ?_) (.inr ⟨_,rfl⟩)) (r6 G (v:=.type "list") (by kernel_rfl) (by kernel_rfl)) (FP rfl)) (λe=>by exact oW e) (λz=> ?_)
 ·refine mX (qQ r) λv Ub r1=> ?_;obtain rfl:=Ub
  subst r1
  exact call_type_of (hl.at λo e=>i.keep _ _ e).typeIs (by decide) ⟨mU _,pi⟩
 refine Gw G (x:=x) (dx:=dx) (D:=D) (nF h1) (nF h2) hx hd (dy ..) V9 WL λg3 k3 t B3=> ?_
 have G3:Gd w 1 (((m5 tF 187 A (dx::X) [] g L).at g2).at g3):=⟨B3,G.off,G.room,G.fn,G.gl,G.bl⟩
 have hDx:D≠dx:=λq=>by
  obtain ⟨o,e,q2,_⟩:=hl
  rw [q,hd] at e;obtain rfl:=am e
  exact absurd q2 (by decide)
 have hl3:g3.IsList D vs.toArray:=hl.at λo e=>k3 _ _ (λq=>hDx (ak.mp q)) e
 have hr3:mR (dx::X) g3 (hp l) vs:=hr.keepX λb o nb e=>k3 _ _ (λq=>nb (by exact (ak.mp q)▸(.head _))) e
 refine nk (d:=ai) (rF (p:=.bool ai) sN qA) (λz=> ?_) (λe=>by exact rI e)
 refine pf (σ':=[("self",.raw (.ref x)),("headers",.raw (.ref D))]) (xv h1 (xv h2 Co)) ?_
 refine wv G3 (l:=l) (V:=λq=>.tup [.str (S q.1),.str (S q.2)]) (bs:=λq=>[("v",.str (S q.2)),("k",.str (S q.1))]) (λz=>[("self",.raw (.ref x)),("headers",.raw (.ref D))]) (λz=>[])
  (ug (by walk_at "ev") hl3 hr3 G3.room.1 (.inr ⟨⟨_,_,_,rfl⟩,?_⟩) (λb hb=>hb)) rfl rfl (λq is z=>re G3.room.1) (λi q g' is hq G' kg=> ?_) ?_
 ·intro p hp
  obtain ⟨q,_,rfl⟩:=aK.mp hp
  exact ⟨_,rfl⟩
 ·have ht:=ok.2 q (bu hq)
  have t':oX g' x dx D:=t.keep kg
  refine E4 (zG G' (T:=q.1) (b:=ai) (by walk_at "ev") t' (by walk_at "ev") sN ht.1.2 (by have:=ht.1.1;exact (mK (.i (.l xA xP) (.l xA xQ)) [_]) ht.1.1)) ?_
  refine E4 (zG G' (T:=q.2) (b:=false) (by walk_at "ev") t' (by walk_at "ev") sN ht.2.2 (by have:=ht.2.1;exact (mK (.i (.l xA xP) (.l xA xQ)) [_]) ht.2.1)) ?_
  exact qT (by walk_at "has")
 ·exact sO λh i=>⟨rfl,λb o nb e=>i.keep _ _ (k3 b o nb e),t.keep i.keep⟩
end
section
variable {w:au}
theorem Lp (P:aQ):makesIn (KB P) 293=ai:=by kernel_rfl
theorem Px (P:aQ):iV (KB P) (.ref 293) "__init__"=aa (aa (.ref 187)):=by kernel_rfl
theorem R0 (P:aQ):me (KB P) (.ref 187)=aa (.type "function"):=by kernel_rfl
theorem Di {os:cD} (r3:pG 3 A) (B:ox w.params h) (lx:oj X h) (hO:sY w.params X)
  (Uv: ∀s:aq,ox w.params s.heap->mi s tF ⟨.ref (h.objs.size+1)::args,[]⟩ (([("self":Str),"headers"]:List Str).zip (.ref (h.objs.size+1)::(args++dv))))
  (hq: ∀g0,m4 h g0->mR (h.objs.size::X) g0 qs (args++dv))
  (body: ∀L A' g0,m4 h g0->g0.get? (h.objs.size+1)=aa (gd 293 h.objs.size)->g0.get? h.objs.size=aa cA->oj (h.objs.size::X) g0->Gd w 1 (m5 tF 187 A' (h.objs.size::X) [] g0 L)->
   mZ mJ w (bf tF L 187) (A'.deeper (bf tF L 187)) (In (m5 tF 187 A' (h.objs.size::X) [] g0 L) (qr ["self","headers"] (.raw (.ref (h.objs.size+1))::qs)) []) (n7 (pe 0))
    (λfl h'=> ∀s':aq,s'.heap=h'->nK ⟨h,g,d,t,os⟩ s'->BO fl= .none/\R (.ok (.ret (.ref (h.objs.size+1)))) s')):
  gx (aI mJ w) A (.call (.ref 293) ⟨args,[]⟩) R ⟨h,g,d,t,os⟩:=by
 refine make_core (makes_of B.frag (Lp _)) (looks_findIn B.frag (Px _)) (λself=>bind_fn B.frag self (R0 _)) (.inl rfl) ?_
 have r2:pG 2 (A.under (.builtin "type.__call__" ⟨.ref 293::args,[]⟩)):=r3.make 293 args
 generalize (A.under (.builtin "type.__call__" ⟨.ref 293::args,[]⟩))=A' at r2
 have k1:m4 h (h.push cA):=λb o e=>aO _ e
 have k2:m4 (h.push cA) ((h.push cA).push (gd 293 h.objs.size)):=λb o e=>aO _ e
 have kk:=k1.trans k2
 have WB:=k2 _ _ (av h (o:=cA) rfl)
 have hx:((h.push cA).push (gd 293 h.objs.size)).get? (h.objs.size+1)=aa (gd 293 h.objs.size):=by
  have:=av (h.push cA) (o:=gd 293 h.objs.size) rfl
  rwa [cw] at this
 generalize (h.push cA).push (gd 293 h.objs.size)=g0 at kk WB hx
 clear k1 k2
 have lx':oj (h.objs.size::X) g0:=λb hb=>by
  rcases ao.mp hb with q|q
  ·subst q;exact ⟨_,WB⟩
  ·exact (lx.keep kk) b q
 have off':sY w.params (h.objs.size::X):=λb hb=>by
  rcases ao.mp hb with q|q
  ·subst q
   exact zB B (l:=[h.objs.size]) (λa ha=>by rw [ak.mp ha];exact nM _) _ (.head _)
  ·exact hO b q
 refine yz (M:=[]) (X:=h.objs.size::X) (ns:=["self","headers"]) (qs:=.raw (.ref (h.objs.size+1))::qs) (Λ:=[]) ((B.keep kk).defAt (RO _)) r2.lim lx' (λz h=>nomatch h) (λz h=>nomatch h) ?_ (λz h=>nomatch h) (wh (by kernel_rfl)) λL Ud k z z Ui=> ?_
 ·refine Uv ⟨g0,g,d,t,os⟩ (B.keep kk) _ _ _ _ ⟨mU _,_,rfl,?_⟩
  exact mR.cons pi (hq g0 kk)
 ·refine ab ((body L A' g0 kk hx WB lx' ⟨B.keep kk,off',r2.deeper _,rfl,rfl,rfl⟩).run Ud Ui) (λfl s' uu=>eA uu λe j=> ?_) λz z e=>e.elim
  refine o6 k ?_;clear k;intro UE Vz Ub _;obtain rfl:=Ub
  refine rU e ?_;clear e;intro Uy VJ Ub;obtain rfl:=Ub
  exact j _ rfl ⟨Uy,VJ,rfl⟩
theorem Gu (r3:pG 3 A) (hI: ∀h,I h->ox w.params h) (hO:sY w.params X) (ok:Fu l):pZ mJ w A X I (.ref 293) [.list (hp l)] (.hdr (hp l)):=λs vs i lx r=>by
 refine mX (qQ r) λv Ub r1=> ?_;obtain rfl:=Ub
 refine nw (pL r1) λD us Ub nD hl hr=> ?_;obtain rfl:=Ub
 obtain ⟨h,g,d,t,os⟩:=s
 have B:=hI _ i
 have nd:h.objs.size∉X:=oY lx
 have nx:h.objs.size+1∉X:=λq=>let ⟨_,e⟩:=lx _ q;absurd (aR e) (i7.mpr (iy _))
 refine eo (Di (args:=[.ref D]) (dv:=[]) (qs:=[.raw (.ref D)]) r3 B lx hO (λs B=>.of_defaults rfl (B.frag 180 HW (by kernel_rfl)) rfl (by with_unfolding_all rfl) (by with_unfolding_all rfl)) (λz z=>mR.cons pi mR.nil) λL A' g0 kk hx WB lx' G=> ?_)
 refine mS (c:=m5 tF 187 A' (h.objs.size::X) [] g0 L) (σ:=qr ["self","headers"] [.raw (.ref (h.objs.size+1)),.raw (.ref D)]) (Λ:=[]) (p:=.raw (.ref D)) ?_ ?_
 ·refine D0 (c:=ai) ?_ (λz=>by walk_at "ev") (λe=>by exact rI e)
  refine m8 (p:=.raw (.ref D)) (q:=.none) ?_ xd ?_
  ·walk_at "ev"
  ·exact vq λh v r=>by subst r;exact ⟨rfl,λe=>nomatch e⟩
 have V9:h.objs.size≠iZ:=λq=>by obtain ⟨m,⟨o,_,_,e,_⟩,_⟩:=B.lim;exact absurd (aR e) (by rw [q];exact bY _)
 have WL:h.objs.size≠dh:=λq=>by obtain ⟨m,⟨o,_,_,e,_⟩,_⟩:=B.blt;exact absurd (aR e) (by rw [q];exact bY _)
 have WK:mR (h.objs.size::X) g0 (hp l) us:=by
  refine mR.keep kk (hr.sub λb hb uu=>eE uu λo e=> ?_)
  rcases ao.mp hb with q|q
  ·subst q;exact absurd (aR e) (bY _)
  ·exact q
 refine tj (Dg (g:=g0) (g2:=g0) ok G hx WB V9 WL (hl.at λo e=>kk _ _ e) WK (by walk_at "lk") (by walk_at "lk")) (λz i=>i) λfl h' uu s' hs' WA=>rW uu λe1 e2 e3=>⟨e1,?_⟩
 subst hs'
 have k3:m4 h s'.heap:=λb o e=>e2 b o (λq=>by rw [ak.mp q] at e;exact absurd (aR e) (bY _)) (kk _ _ e)
 refine rU WA ?_;clear WA;intro Uy VJ Ub;obtain rfl:=Ub
 refine ⟨⟨Uy,VJ,rfl,k3⟩,?_⟩
 exact ⟨_,_,D,us,rfl,nx,nd,nD,e3,hl.at λo e=>k3 _ _ e,mR.keep k3 hr⟩
theorem Gc (r3:pG 3 A) (B:ox w.params s.heap) (lx:oj X s.heap) (hO:sY w.params X):
  aC (aI mJ w) A (ft (.ref 293) []) (λv s'=>bB s s'/\ ∃a d D,v= .ref a/\a∉X/\d∉X/\oX s'.heap a d D/\s.heap.get? D=az/\s'.heap.get? D=aa {cls:=.type "list",data:=.seq #[]}) (λz z=>False) s:=by
 obtain ⟨h,g,d,t,os⟩:=s
 have nd:h.objs.size∉X:=oY lx
 have nx:h.objs.size+1∉X:=λq=>let ⟨_,e⟩:=lx _ q;absurd (aR e) (i7.mpr (iy _))
 refine eo (Di (args:=[]) (dv:=[.none]) (qs:=[.none]) r3 B lx hO (λs B=>.of_defaults rfl (B.frag 180 HW (by kernel_rfl)) rfl (by with_unfolding_all rfl) (by with_unfolding_all rfl)) (λz z=>mR.cons Ca mR.nil) λL A' g0 kk hx WB lx' G=> ?_)
 refine DP (c:=m5 tF 187 A' (h.objs.size::X) [] g0 L) (σ:=qr ["self","headers"] [.raw (.ref (h.objs.size+1)),.none]) (Λ:=[]) ?_ λD g2 k2 hD0 Wu nD=> ?_
 ·refine m8 (p:=.none) (q:=.none) ?_ xd CL
  walk_at "ev"
 have V9:h.objs.size≠iZ:=λq=>by obtain ⟨m,⟨o,_,_,e,_⟩,_⟩:=B.lim;exact absurd (aR e) (by rw [q];exact bY _)
 have WL:h.objs.size≠dh:=λq=>by obtain ⟨m,⟨o,_,_,e,_⟩,_⟩:=B.blt;exact absurd (aR e) (by rw [q];exact bY _)
 have hDd:D≠h.objs.size:=λq=>by rw [q] at Wu;rw [k2 _ _ WB] at Wu;exact absurd (congrArg Obj.cls (am Wu)) (by decide)
 refine tj (Dg (l:=[]) (vs:=[]) (g:=g0) (g2:=g2) ⟨by decide,λq hq=>nomatch hq⟩ (G.at' k2) (k2 _ _ hx) (k2 _ _ WB) V9 WL ⟨_,Wu,rfl,_,rfl⟩ mR.nil (by walk_at "lk") (by walk_at "lk")) (λz i=>i) λfl h' uu s' hs' WA=>rW uu λe1 e2 e3=>⟨e1,?_⟩
 subst hs'
 have k3:m4 h s'.heap:=λb o e=>e2 b o (λq=>by rw [ak.mp q] at e;exact absurd (aR e) (bY _)) (k2 _ _ (kk _ _ e))
 refine rU WA ?_;clear WA;intro Uy VJ Ub;obtain rfl:=Ub
 refine ⟨⟨Uy,VJ,rfl,k3⟩,_,_,D,rfl,nx,nd,e3,?_,e2 D _ (λq=>hDd (ak.mp q)) Wu⟩
 cases e:h.get? D with
 |none=>rfl
 |some o=>have:=kk _ _ e;rw [show g0.get? D=az from hD0] at this;exact nE this
end
section
variable {w:au}
theorem Hn:ey rC ⟨[x,n,v],[]⟩=(alloc {cls:=.type "dict",data:=.dict #[]} >>= λd=>bG ((["self","_name","_value","_params"]:List Str).zip [x,n,v,.ref d])):=by kernel_rfl!
theorem FJ: ∀h v,mV X h (.str x) v->plainIs v .none=ai/\v≠ .none:=λh v r=>by
 obtain ⟨t,rfl⟩:=nG r
 exact ⟨rfl,λe=>nomatch e⟩
set_option maxHeartbeats 1000000 in
theorem MW (G:Gd w 2 (m5 rC 290 A X [D] g0 L)) (t:oX g0 a d D) (hd:g0.get? P0=aa cA) (hs:(P0==sysModules)=false) (hl:l.length<=1000)
  (h1:nm.length<=100/\ ∀c∈nm,vD ai c=ai) (h2:vl.length<=100/\ ∀c∈vl,vD false c=ai):
  mZ mJ w (m5 rC 290 A X [D] g0 L).env (m5 rC 290 A X [D] g0 L).A (In (m5 rC 290 A X [D] g0 L) (qr ["self","_name","_value","_params"] [.raw (.ref a),.str (S nm),.str (S vl),.raw (.ref P0)]) [(D,hp l)]) (n7 (pe 16))
   (λfl h=>m4 g0 h/\ ∃WC,h.PlainList D WC.toArray/\mR (m5 rC 290 A X [D] g0 L).X h (hp (l++[(nm,vl)])) WC):=by
 have hz:=aw
 have G1:Gd w 1 (m5 rC 290 A X [D] g0 L):=⟨G.base,G.off,G.room.less (by exact mK (.l xI xM) [] []),rfl,rfl,rfl⟩
 refine zb λP gP nP=> ?_
 have hDX:D∈(m5 rC 290 A X [D] g0 L).X:=ax _ (.tail _ (aM _ (.head _)))
 have Uu: ∀q∈[(D,hp l)],q.1≠P:=λq hq=>by rw [ak.mp hq];exact λe=>nP (e▸hDX)
 have t':oX ((m5 rC 290 A X [D] g0 L).addOwn P).g a d D:=t
 have GP:=G1.addOwn P
 refine nk (d:=ai) (m8 (p:=.str (S vl)) (q:=.none) ?_ xd (vq FJ)) (λz=> ?_) (λe=>by exact rI e)
 ·walk_at "ev"
 refine mS (p:=.str (S vl)) (zG GP (T:=vl) (b:=false) ?_ t' ?_ sN h2.2 (by have:=h2.1;exact (mK (.i (.l xA xP) (.l xA xQ)) [_]) h2.1)) ?_
 ·walk_at "ev"
 ·walk_at "ev"
 refine BJ (D:=P) (l:=[]) (p:=.str (S vl)) (by walk_at "lk") ?_ (by simp) Uu ?_
 ·walk_at "ev"
 refine E8 "parts" (by walk_at "lk") Uu nP ?_
 refine pf (σ':=[("parts",.list [.str (S vl)]),("self",.raw (.ref a)),("_name",.str (S nm)),("_params",.raw (.ref P0))]) (by walk_at "has") ?_
 refine wv G1 (l:=([]:List Unit)) (V:=λz=>.none) (bs:=λz=>[]) (λz=>[("parts",.list [.str (S vl)]),("self",.raw (.ref a)),("_name",.str (S nm)),("_params",.raw (.ref P0))]) (λz=>[(D,hp l)])
  (Kz (L6 (by walk_at "ev") hd hs) hd G.room.1 (λb hb=>hb)) rfl rfl (λa is h=>nomatch h) (λi a g' is h=>by simp at h) ?_
 have hval:Txt.join (S [59,32]) (([vl]:List (List Nat)).map S)=S vl:=rfl
 refine Gr (D:=D) (l:=hp l) (p:=.tup [.str (S nm),.str (S vl)]) ?_ ?_ (by unfold hp;rw [ah];exact (mK (.i (.l xA xQ) (.i (.e xB xL) (.l xA xB))) [_,_]) hl hz) (λq hq=>nomatch hq) ?_
 ·refine uP G1 ?_ t
  walk_at "ev"
 ·refine oE (mM ?_ (mM ?_ mP)) (by simp;exact (mK (.i (.e xA xL) (.l xM xA)) [_]) hz)
  ·refine zG G1 (T:=nm) (b:=ai) ?_ t ?_ sN h1.2 (by have:=h1.1;exact (mK (.i (.l xA xP) (.l xA xQ)) [_]) h1.1)
   ·walk_at "ev"
   ·walk_at "ev"
  ·refine ro (p:=.str (S [59,32])) (T:="str") ?_ oy F.plainAttrs_str F.slot_str_join F.type_str_join (mM (p:=.list (([vl].map S).map PV.str)) ?_ mP) (qB (vZ (ud ?_)) (by rw [hval]))
   ·exact nh (by kernel_rfl)
   ·walk_at "ev"
   ·have:=h2.1;simp;exact (mK (.i (.l xA xP) (.l xA (.c 999998))) [_]) h2.1
 ·refine sO λh i=>⟨i.keep,?_⟩
  refine o8 (i.lists _ (.head _)) λz vs pl rs=> ?_
  refine ⟨vs,pl,?_⟩
  rw [show hp (l++[(nm,vl)])=hp l++[.tup [.str (S nm),.str (S vl)]] by unfold hp;rw [bi];rfl]
  exact rs
theorem MQ (r3:pG 3 A) (B:ox w.params s.heap) (lx:oj X s.heap) (hO:sY w.params X) (hD:D∈X) (t:oX s.heap a d D) (pl:s.heap.PlainList D vs.toArray) (rs:mR X s.heap (hp l) vs)
  (hl:l.length<=1000) (h1:nm.length<=100/\ ∀c∈nm,vD ai c=ai) (h2:vl.length<=100/\ ∀c∈vl,vD false c=ai) (ru:mV X s.heap (.str (S nm)) u) (rz:mV X s.heap (.str (S vl)) z):
  aC (aI mJ w) A (ft (.ref 290) [.ref a,u,z]) (λz s'=>nK s s'/\oV [D] s.heap s'.heap/\ ∃WC,s'.heap.PlainList D WC.toArray/\mR X s'.heap (hp (l++[(nm,vl)])) WC) (λz z=>False) s:=by
 have hz:=aw
 have hbig:333<s.heap.objs.size:=aR (B.frag 333 (fo pH) (by kernel_rfl))
 have off:sY w.params [D]:=λb hb=>hO b (by exact (ak.mp hb)▸hD)
 have hDlt:D<s.heap.objs.size:=by obtain ⟨_,e⟩:=pl;exact aR e
 have haD:a≠D:=λq=>by obtain ⟨_,e⟩:=pl;rw [<-q,t.obj] at e;have:=congrArg Obj.cls (am e);cases this
 have hdD:d≠D:=λq=>by
  obtain ⟨_,e⟩:=pl
  obtain ⟨od,e2,e3,_⟩:=t.dic
  rw [q,e] at e2;obtain rfl:=am e2;exact nE e3
 refine eo (wE (M:=[D]) (X:=X) (K:=λUa=>Ua.heap.get? s.heap.objs.size=aa cA) (ns:=["self","_name","_value","_params"]) (qs:=[.raw (.ref a),.str (S nm),.str (S vl),.raw (.ref s.heap.objs.size)]) (Λ:=[(D,hp l)]) (B.defAt (D6 _)) r3.lim lx (λb hb=>lx b (by exact (ak.mp hb)▸hD)) (λb hb=>by exact (ak.mp hb)▸hD) ?_ (λq hq=>by exact (ak.mp hq)▸(⟨.head _,vs,pl,rs⟩)) (wh (by kernel_rfl)) λL Ua Ud Uc hK Ue z hL Ui=> ?_)
 ·rw [Hn]
  have k:=m9 s {cls:=.type "dict",data:=.dict #[]} s.toks
  exact ae (wpAny_alloc (aj ⟨k,av _ rfl,_,rfl,mR.cons pi (mR.cons (ru.keep (mN k)) (mR.cons (rz.keep (mN k)) (mR.cons pi mR.nil)))⟩))
 have nD: ∀b,b≠D->b∉[D]:=λb h q=>h (ak.mp q)
 have hg: ∀b o,b≠D->Ua.heap.get? b=aa o->(hideAll Ua.heap [D]).get? b=aa o:=λb o nb e=>bS _ e (nD b nb)
 have Vo:oX (hideAll Ua.heap [D]) a d D:=⟨hg _ _ haD (mN Uc _ _ t.obj),let ⟨od,e,r⟩:=t.dic;⟨od,hg _ _ hdD (mN Uc _ _ e),r⟩⟩
 have hdict:(hideAll Ua.heap [D]).get? s.heap.objs.size=aa cA:=hg _ _ (λq=>by rw [<-q] at hDlt;exact bY _ hDlt) hK
 have Wj:ox w.params (hideAll Ua.heap [D]):=by
  have B':=B.keep (mN Uc)
  have V9:iZ≠D:=λq=>by
   obtain ⟨m,⟨o,es,ep,e,e2,_⟩,_⟩:=B.lim
   obtain ⟨_,e3⟩:=pl
   rw [q,e3] at e;obtain rfl:=am e;cases e2
  have WL:dh≠D:=λq=>by
   obtain ⟨m,⟨o,es,ep,e,e2,_⟩,_⟩:=B.blt
   obtain ⟨_,e3⟩:=pl
   rw [q,e3] at e;obtain rfl:=am e;cases e2
  refine ⟨λb o e=>hg b o (λq=>by have:=hO D hD;rw [<-q,e] at this;exact tJ this) (B'.frag b o e),B'.lim.at λo e=>hg _ _ V9 e,?_⟩
  refine mX B'.blt λmb n r=> ?_
  exact ⟨mb,n.at' λo e=>hg _ _ WL e,r⟩
 have G:Gd w 2 (m5 rC 290 A X [D] (hideAll Ua.heap [D]) L):=⟨Wj,hO,r3.deeper _,rfl,rfl,rfl⟩
 have G1:Gd w 1 (m5 rC 290 A X [D] (hideAll Ua.heap [D]) L):=⟨Wj,hO,(r3.deeper _).less (by exact mK (.l xI xM) [] []),rfl,rfl,rfl⟩
 have hs:(s.heap.objs.size==sysModules)=false:=by
  rw [beq_eq_false_iff_ne]
  intro q
  rw [q] at hbig
  exact absurd hbig (by decide)
 refine ab ((MW G Vo hdict hs hl h1 h2).run Ud Ui) (λfl s' uu=>HN uu λe kk WC VR rs'=> ?_) λz z e=>e.elim
 refine o6 Uc ?_;clear Uc;intro Ul t1 Ub k1;obtain rfl:=Ub
 refine o6 Ue ?_;clear Ue;intro UE t2 Ub k2;obtain rfl:=Ub
 refine rU e ?_;clear e;intro Uy t3 Ub;obtain rfl:=Ub
 refine ⟨⟨_,_,rfl⟩,λb o nb e=>kk b o (hg b o (λq=>nb (by exact q▸(.head _))) (k1 b o e)),WC,VR,rs'.sub λb hb z=>aM _ hb⟩
end
end
section
open PySem.Calls PyProof.Rows
section
variable {prog:aG} {w:au} {A:aX} {X:List aF}
open PySem.SeqAt
mutual
noncomputable def pd:PV->Option iu
 |.none=>aa .none
 |.bool b=>aa (.bool b)
 |.int i=>aa (.int i)
 |.str x=>aa (.str x)
 |.tup l=>(wL l).map .tuple
 |.list l=>(wL l).map .list
 |_=>jr
noncomputable def wL:List PV->Option (List iu)
 |[]=>aa []
 |p::ps=>match pd p,wL ps with
  |some d,aa ds=>aa (d::ds)
  |_,_=>jr
end
set_option tactic.hygienic true
mutual
theorem wd: ∀{p:PV} {v:ay} {d:iu},pd p=aa d->mV X h p v-> ∃as,Reads h v d as
 |.none,v,d,e,r=>by
  obtain rfl:=am e;subst r;exact ⟨_,.none⟩
 |.bool b,v,d,e,r=>by
  obtain rfl:=am e;subst r;exact ⟨_,.bool _⟩
 |.int i,v,d,e,r=>by
  obtain rfl:=am e;obtain ⟨t,rfl⟩:=r;exact ⟨_,.int _ _⟩
 |.str x,v,d,e,r=>by
  obtain rfl:=am e;obtain ⟨t,rfl⟩:=r;exact ⟨_,.str _ _⟩
 |.tup l,v,d,e,r=>by
  unfold pd at e;
  obtain ⟨a,vs,rfl,_,⟨o,ho,hc,n,hd⟩,q⟩:=r
  cases el:wL l with
  |none=>rw [el] at e;exact nE e
  |some ds=>
   rw [el] at e;obtain rfl:=am e
   obtain ⟨as,k⟩:=yX el q
   exact ⟨_,.tuple ho hc hd k⟩
 |.list l,v,d,e,r=>by
  unfold pd at e;
  obtain ⟨a,vs,rfl,_,⟨o,ho,hc,n,hd⟩,q⟩:=r
  cases el:wL l with
  |none=>rw [el] at e;exact nE e
  |some ds=>
   rw [el] at e;obtain rfl:=am e
   obtain ⟨as,k⟩:=yX el q
   exact ⟨_,.list ho hc hd k⟩
 |.float _,_,_,e,_=>by exact nE e
 |.fx _,_,_,e,_=>by exact nE e
 |.bytes _,_,_,e,_=>by exact nE e
 |.raw _,_,_,e,_=>by exact nE e
 |.inst _,_,_,e,_=>by exact nE e
 |.hdr _,_,_,e,_=>by exact nE e
theorem yX: ∀{ps:List PV} {vs:List ay} {ds:List iu},wL ps=aa ds->mR X h ps vs-> ∃as,ReadsAll h vs ds as
 |[],vs,ds,e,r=>by
  obtain rfl:=am e;subst r;exact ⟨_,.nil⟩
 |p::ps,vs,ds,e,r=>by
  unfold wL at e;
  refine nu r ?_;clear r;intro v us Ub a b;obtain rfl:=Ub
  split at e
  ·rename_i d ds' e1 e2
   obtain rfl:=am e
   obtain ⟨_,k1⟩:=wd e1 a
   obtain ⟨_,k2⟩:=yX e2 b
   exact ⟨_,.cons k1 k2⟩
  ·exact nE e
end
set_option tactic.hygienic false
theorem Fp {p q:PV} {d e:iu} (hu:A.units+64<fw) (hp:pd p=aa d) (hq:pd q=aa e) (sd:shaped d=ai) (se:shaped e=ai):
  og prog w A X (bP .Eq) p q (.bool (da d e)):=λs x y z r k=>by
 obtain ⟨_,r⟩:=wd hp r;obtain ⟨_,k⟩:=wd hq k
 exact eq_dataH r k sd se hu ⟨mU _,by rfl⟩
theorem Fm {p q:PV} {d e:iu} (hu:A.units+64<fw) (hp:pd p=aa d) (hq:pd q=aa e) (sd:shaped d=ai) (se:shaped e=ai):
  og prog w A X (bP .NotEq) p q (.bool (!da d e)):=λs x y z r k=>by
 obtain ⟨_,r⟩:=wd hp r;obtain ⟨_,k⟩:=wd hq k
 exact ne_dataH r k sd se hu ⟨mU _,by rfl⟩
def G4 (A:aX) (X:List aF) (p q:PV) (b:Bool):Prop:= ∀(s:aq) (v u:ay),mV X s.heap p v->mV X s.heap q u->EqAt A s v u b/\(v=u->b=ai)
def Az (A:aX) (X:List aF) (l m:List PV) (b:Bool):Prop:= ∀(s:aq) (vs us:List ay),mR X s.heap l vs->mR X s.heap m us->
 vs.length=us.length/\(∃e:Nat->Bool,(∀j (h1:j<vs.length) (h2:j<us.length),EqAt A s vs[j] us[j] (e j))/\(ag vs.length).all e=b)/\(vs=us->b=ai)
theorem ED {s:aq} {l b:aF} {k:Bool} (hs:l=b->k=ai) (h:RcAt A s (.ref l) (.ref b) k):EqAt A s (.ref l) (.ref b) k:=by
 by_cases e:l=b
 ·rw [hs e];subst e;exact EqAt.same _
 ·exact EqAt.of_refs e h
theorem vM:G4 A X (.raw v) (.raw v) ai:=λs x u r q=>by
 subst r q
 exact ⟨EqAt.same _,λz=>rfl⟩
theorem A6:Az A X [] [] ai:=λs vs us r q=>by
 subst r q
 exact ⟨rfl,⟨λz=>ai,λj h1=>absurd h1 (jO _),rfl⟩,λz=>rfl⟩
theorem sv (h:G4 A X p q a) (hs:Az A X l m b):Az A X (p::l) (q::m) (a&&b):=λs vs us r k=>by
 refine nu r ?_;clear r;intro v WC Ub r1 r2;obtain rfl:=Ub
 refine nu k ?_;clear k;intro u WF Ub k1 k2;obtain rfl:=Ub
 refine eA (h s v u r1 k1) λh1 h1'=> ?_
 obtain ⟨hn,⟨e,he,hb⟩,hv⟩:=hs s WC WF r2 k2
 refine ⟨by simp [hn],⟨λj=>match j with|0=>a|j+1=>e j,?_,?_⟩,λhh=> ?_⟩
 ·intro j g1 g2
  cases j with
  |zero=>exact h1
  |succ j=>exact he j (by simpa using g1) (by simpa using g2)
 ·rw [aU,ky,iL,List.all_map,<-hb];rfl
 ·injection hh with e1 e2
  rw [h1' e1,hv e2];rfl
theorem Gs {h:aW} (p:h.IsList a x) (q:h.IsList a y):x=y:=by
 obtain ⟨o,e,c,n,d⟩:=p;obtain ⟨o',e',c',n',d'⟩:=q
 rw [e] at e';obtain rfl:=am e';rw [d] at d';injection d'
theorem BI (p:IsTup h a x) (q:IsTup h a y):x=y:=by
 obtain ⟨o,e,c,n,d⟩:=p;obtain ⟨o',e',c',n',d'⟩:=q
 rw [e] at e';obtain rfl:=am e';rw [d] at d';injection d'
theorem LH {l m:List PV} {b:Bool} (hu:A.units<fw) (h:Az A.in1 X l m b): ∀(s:aq) (v u:ay),mV X s.heap (.list l) v->mV X s.heap (.list m) u->RcAt A s v u b/\(v=u->b=ai):=λs v u r q=>by
 refine nw r ?_;clear r;intro a vs Ub _ t r;obtain rfl:=Ub
 refine nw q ?_;clear q;intro a' us Ub _ t' q;obtain rfl:=Ub
 obtain ⟨hn,⟨e,he,hb⟩,hv⟩:=h s vs us r q
 refine ⟨?_,λhh=> ?_⟩
 ·have:=RcAt.lists (A:=A) (e:=e) t t' (by simpa using hn) hu (λj h1 h2=>by simpa using he j (by simpa using h1) (by simpa using h2))
  rw [<-hb];simpa using this
 ·cases hh
  exact hv (by simpa using Gs t t')
theorem OQ {l m:List PV} {b:Bool} (hu:A.units<fw) (h:Az A.in1 X l m b): ∀(s:aq) (v u:ay),mV X s.heap (.tup l) v->mV X s.heap (.tup m) u->RcAt A s v u b/\(v=u->b=ai):=λs v u r q=>by
 refine nw r ?_;clear r;intro a vs Ub _ t r;obtain rfl:=Ub
 refine nw q ?_;clear q;intro a' us Ub _ t' q;obtain rfl:=Ub
 obtain ⟨hn,⟨e,he,hb⟩,hv⟩:=h s vs us r q
 refine ⟨?_,λhh=> ?_⟩
 ·have:=RcAt.tuples (A:=A) (e:=e) t t' hu (λj h1 h2=>by simpa using he j (by simpa using h1) (by simpa using h2))
  rw [<-hb];simpa [hn] using this
 ·cases hh
  exact hv (by simpa using BI t t')
theorem G4.ofTup (hu:A.units<fw) (h:Az A.in1 X l m b):G4 A X (.tup l) (.tup m) b:=λs v u r q=>
 by
  obtain ⟨x,y⟩:=OQ hu h s v u r q
  refine o6 r ?_;clear r;intro a vs Ub _;obtain rfl:=Ub
  refine o6 q ?_;clear q;intro a' us Ub _;obtain rfl:=Ub
  exact ⟨ED (λe=>y (by rw [e])) x,y⟩
theorem Gi (hu:A.units<fw) (h:Az A.in1 X l m b):og prog w A X (bP .Eq) (.list l) (.list m) (.bool b):=λs x y z r k=>
 (LH hu h s x y r k).1 prog w _ _ ⟨mU _,by rfl⟩
end
end
section
open PySem.Calls PyProof.Rows
section
variable {prog:aG} {w:au} {c:Sc} {σ:m7} {Λ:List (aF×List PV)}
theorem tG (hh:c.A.handled=az) (hx:autoParam (sG c x) X2) (hy:autoParam (sG c y) X2) (hz:autoParam (sG c z) X2) (hk:autoParam (c.env.scope.kind= .function) X1):
  zf prog w c (.Tuple [.Name x px,.Name y py,.Name z pz] k pos) (.tup [p,q,r]) [(z,r),(y,q),(x,p)]:=λσ Λ s v i r=>by
 refine nw r ?_;clear r;intro T vs Ub nT tT r;obtain rfl:=Ub
 refine nu r ?_;clear r;intro a us Ub ra r;obtain rfl:=Ub
 refine nu r ?_;clear r;intro b WF Ub rb r;obtain rfl:=Ub
 refine nu r ?_;clear r;intro d WF Ub rd r;obtain rfl:=Ub
 subst r
 refine wpAny_assign_Tuple hh tT rfl rfl λh' hE=> ?_
 have kk:m4 s.heap h':=λb o e=>hE b o (dj (aR e)) e
 have Uj:=i.mono kk
 refine ae (bL (dM (ab (rJ (s:={s with heap:=h'}) Uj hx (mV.keep kk ra) hk) (λz Ud uu=>rW uu λUO Ui Ue=> ?_) λz z e=>e)))
 refine ae (bL (dM (ab (rJ Ui hy ((mV.keep kk rb).keepX λb o nb e=>Ue b o (λq=>nb (ax _ q)) e) hk) (λz Uk uu=>rW uu λUT Us Um=> ?_) λz z e=>e)))
 refine ae (bL (dM (ab (rJ Us hz (((mV.keep kk rd).keepX λb o nb e=>Ue b o (λq=>nb (ax _ q)) e).keepX λb o nb e=>Um b o (λq=>nb (ax _ q)) e) hk) (λz Uw uu=>rW uu λVD U4 UH=> ?_) λz z e=>e)))
 exact aj ⟨(nK.trans ⟨h',s.toks,rfl⟩ (UO.trans (UT.trans VD))),U4,λb o nb e=>UH b o nb (Um b o nb (Ue b o nb (kk _ _ e)))⟩
end
section
variable {prog:aG} {w:au} {A:aX} {X:List aF} {I:aW->Prop}
theorem I0 (h:b≠0) (hb:b.natAbs<1073741824):pZ prog w A X I (.builtin "divmod") [.int a,.int b] (.tup [.int (a.fdiv b),.int (a.fmod b)]):=λs vs z lx r=>by
 refine nu (sW r) λv u Ub r1 r2=> ?_;obtain rfl:=Ub
 refine eE r1 ?_;clear r1;intro t Ub;obtain rfl:=Ub;refine eE r2 ?_;clear r2;intro t' Ub;obtain rfl:=Ub
 refine divmod_int h ?_ (.inl (j0 hb))
 refine ⟨m9 s _ _,EI (vs:=[.int (a.fdiv b) s.toks,.int (a.fmod b) (s.toks+1)]) (oY lx) ⟨_,av _ rfl,rfl,_,rfl⟩ (mR.cons tU (mR.cons tU mR.nil))⟩
theorem GA:og prog w A X (cf .Mult) (.int a) (.bool b) (.int (a*if b=ai then 1 else 0)):=λs x y z r q=>by
 refine eE r ?_;clear r;intro t Ub;obtain rfl:=Ub;subst q
 exact IntBool.mul_int_bool (qG rfl)
theorem GC:PQ prog w A X (unaryOp .Not) (.bool b) (.bool (!b)):=λs x z r=>by
 subst r
 exact not_value (fO ⟨mU _,by rfl⟩)
end
section
variable {prog:aG} {w:au} {φ:Fs}
theorem Ro (hx:Ev prog w φ x p) (t:tY prog w φ.A φ.X p a) (hy:a=false->Ev prog w φ y q) (hr:r=if a then p else q):
  Ev prog w φ (.BoolOp .Or [x,y] pos) r:=.mk λs i=>
 wpAny_Or2 (ab (hx.run s i) (λv Ua uu=>eA uu λUc Uf=>ab (t Ua v Uf) (λc Ud uu=>eA uu λUe e=>by
  subst e
  cases c with
  |false=>subst hr;exact ab ((hy rfl).run Ud (φ.mono' i (mO Uc Ue))) (λz z uu=>eA uu λUm Ut=>⟨mO Uc (mO Ue Um),Ut⟩) λz z e=>e
  |true=>subst hr;exact ⟨mO Uc Ue,Uf.keep (mN Ue)⟩) λz z e=>e) λz z e=>e)
theorem rh (h:Ev prog w φ e (.raw v)) (hv: ∀g,mV φ.X g p v):Ev prog w φ e p:=.mk λs i=>
 ab (h.run s i) (λu Ua uu=>eA uu λk r=>⟨k,by subst r;exact hv _⟩) λz z e=>e
end
end
section
open PySem.Calls PyProof.Rows PySem.Builtin.Str
section
variable {w:au}
noncomputable def xr (r f:Int):List (Int×Int×Int):=[(128,r,0),(f,128,0),(0,128,r),(0,f,128),(r,0,128),(128,0,f)]
noncomputable def NC (t:Int×Int×Int):PV:=.tup [.int t.1,.int t.2.1,.int t.2.2]
noncomputable def Tb:PV->Option PV
 |.tup [h,_,_]=>aa h
 |_=>az
def vz (p:Int):Option PV:=((xr ((6*p).fmod 128) (128 - (6*p).fmod 128))[((6*p).fdiv 128).toNat]?).bind λt=>(oJ (.int t.1) (.int t.2.1) (.int t.2.2)).bind Tb
theorem PO {G:Prop} (e:vz p=aa h) (k: ∀t y z,(xr ((6*p).fmod 128) (128 - (6*p).fmod 128))[((6*p).fdiv 128).toNat]? =aa t->oJ (.int t.1) (.int t.2.1) (.int t.2.2)=aa (.tup [h,y,z])->G):G:=
 ng e λt e1 e=>ng e λu e2 e3=>by
  cases u with
  |tup l=>
   match l,e3 with
   |[x,y,z],e3=>obtain rfl:=am e3;exact k t y z e1 e2
  |_=>exact nE e3
theorem AH (h0:0<=p) (h1:p<128) (e:vz p=aa h):rN mJ w 2 304 [.int p] h:=by
 refine PO e λt y z e1 e2=> ?_
 clear e
 refine qL ["place"] (D7 _) (λvs e=> ?_) (λA X g' L lx G=> ?_)
 ·refine eE (vr e) λj Ub=> ?_;obtain rfl:=Ub;kernel_rfl!
 ·have hh:(A.deeper (bf Nb L 304)).handled=az:=G.room.1
  have hz:=aw
  have d0:0<=(6*p).fdiv 128:=by rw [bX _ (by decide)];exact (mK (.i (.L xJ xA) (.L xJ (.d (.m 6 xA) 128))) [] [_]) h0
  have d1:(6*p).fdiv 128<6:=by rw [bX _ (by decide)];exact (mK (.i (.B xA xR) (.B (.d (.m 6 xA) 128) (.c 6))) [] [_]) h1
  refine sC (p:=.tup [.int ((6*p).fdiv 128),.int ((6*p).fmod 128)]) (oq G (ps:=[.int (6*p),.int 128]) (by kernel_rfl) (by kernel_rfl) (mM (mQ (p:=.int 6) ?_ ?_ (By (.of_left (by decide+kernel)))) (mM ?_ mP)) (I0 (by decide) (by decide))) (re hh) ?_
  ·walk_at "ev"
  ·walk_at "ev"
  ·walk_at "ev"
  refine mS (p:=.int (128 - (6*p).fmod 128)) ?_ ?_
  ·walk_at "ev"
  refine mS (p:=.list ((xr ((6*p).fmod 128) (128 - (6*p).fmod 128)).map NC)) (qo (ps:=(xr ((6*p).fmod 128) (128 - (6*p).fmod 128)).map NC) (mM ?_ (mM ?_ (mM ?_ (mM ?_ (mM ?_ (mM ?_ mP)))))) (by simp [xr];exact (mK (.i (.e xA xL) (.l (.c 6) xA)) [_]) hz)) ?_
  all_goals first|(refine oE (mM ?_ (mM ?_ (mM ?_ mP))) (by simp;exact (mK (.i (.e xA xL) (.l xO xA)) [_]) hz)<;>walk_at "ev")|skip
  refine sC (p:=NC t) (nA (p:=.list ((xr ((6*p).fmod 128) (128 - (6*p).fmod 128)).map NC)) (q:=.int ((6*p).fdiv 128)) ?_ ?_ (ni d0 (by rw [a7,e1];rfl) (by exact (mK (.i (.B xA (.c 6)) (.B xA xS)) [] [_]) d1))) (tG hh) ?_
  ·walk_at "ev"
  ·walk_at "ev"
  refine nt (nA (p:=.tup [h,y,z]) (q:=.int 0) (oP G (ps:=[.int t.1,.int t.2.1,.int t.2.2]) (by kernel_rfl) (vJ _).e (mM ?_ (mM ?_ (mM ?_ mP))) (uV trivial trivial trivial e2)) mT (rS (by decide) rfl (by decide)))
  ·walk_at "ev"
  ·walk_at "ev"
  ·walk_at "ev"
end
end
section
open PySem.Calls PyProof.Rows
section
variable {prog:aG} {w:au} {c:Sc} {σ:m7} {Λ:List (aF×List PV)}
theorem OP {h:aW} (p:h.Ns a m) (q:h.Ns a m'):m=m':=by
 refine sa p λo es ep e d z f=> ?_;refine sa q λo' es' ep' e' d' z f'=> ?_
 rw [e] at e';obtain rfl:=am e';rw [d] at d';cases d'
 exact funext λx=>(f x).symm.trans (f' x)
theorem v7 {α:Type} {l:List α} {V:α->PV} {bs:α->m7} (σf:m7) (t:α->Bool) (o:α->PV)
  (hi:uF prog w c σ Λ [] Uh iter (l.map V)) (hc:wC c σ σf scope cl)
  (ha: ∀a C g Ug,a∈l->zf prog w (ny c scope cl C g Ug) Uh (V a) (bs a))
  (ht: ∀a C g Ug,a∈l->m4 c.g g->(∀b∈(ny c scope cl C g Ug).own++Ug,c.g.get? b=az)->zV prog w (fs (ny c scope cl C g Ug) (bs a++σf) []) VS (t a))
  (he: ∀a C g Ug,a∈l->t a=ai->m4 c.g g->(∀b∈(ny c scope cl C g Ug).own++Ug,c.g.get? b=az)->sY w.params c.X->Ev prog w (fs (ny c scope cl C g Ug) (bs a++σf) []) elt (o a))
  (hoff: ∀h,In c σ Λ h->sY w.params c.X)
  (hsz:l.length<=bo) (VW: ∀a∈l,(σf.all λq=>((bs a).lookup q.1).isNone)=ai)
  (Vi:gL scope c.env=bG cl) (U7:vG c.env.cells cl) (U6:scope.kind= .function) (U2: ∀y∈scope.names,y.2= .local->scope.names.lookup y.1=aa .local)
  (hb:mZ prog w c.env c.A (In c ((y,.list ((l.filter t).map o))::σ) Λ) b J)
  (hx:autoParam (c.env.kindOf y=aa .local) X1) (hk:autoParam (c.env.scope.kind= .function) X1) (XM:autoParam (cK (.ListComp elt [⟨Uh,iter,VS,0⟩] scope pos) (aa (.Name y px)) Vt.line c.env=bG ai) X1)
  (hs:autoParam (∀x,cP iter c.env x=bG x) X3):
  mZ prog w c.env c.A (In c σ Λ) (.Assign [.Name y px] (.ListComp elt [⟨Uh,iter,VS,0⟩] scope pos) Vt::b) J:=
 qZ (I':=In c ((y,.list ((l.filter t).map o))::σ) Λ) (λs i=>by
  rw [exec_Assign_Name_used _ _ _ _ XM]
  refine ae (eD (ae ?_))
  refine ae (ab (DI (Q:=λz s'=>nK s s'/\In c ((y,.list ((l.filter t).map o))::σ) Λ s'.heap) σf t o hi hc (λa C g Ug h z=>ha a C g Ug h) ht (λa C g Ug ha ht hk hn=>he a C g Ug ha ht hk hn (hoff _ i)) hsz VW Vi U7 U6 U2 hs i (use:=aa (mc (.Name y px) c.env)) λUk C v hC hns hf=> ?_) (λz s' hq=>aj (aj hq)) λz z e=>e)
  refine eE hns λmC nC=> ?_
  have hLC:c.env.locals≠C:=λq=>by
   obtain ⟨o,e⟩:=i.live _ i.locOwn
   rw [q,hC] at e;exact nE e
  refine eA (hf Uk.heap ⟨rfl,λz z=>rfl⟩) λUU WV=> ?_
  have Us:=i.mono (mN UU)
  refine mX Us.loc λm₀ Vj hm₀=> ?_
  refine dM (iO hx Vj (λUl WX sb1=>⟨mC,nC.sameBut sb1 hLC.symm,λh' sb'=> ?_⟩) (by rw [hk];rfl))
  refine vW (id Vj) λoL esL epL eL dL rL=> ?_
  refine wK (id WX) λoL' z z eL' z=> ?_
  have e':h'.get? c.env.locals=aa oL':=(sb'.2 _ hLC).trans eL'
  have hfr:oL.isFreed=false:=(aW.get?_some_iff.mp eL).2
  have WI:(h'.update c.env.locals λz=>oL).objs.size=h'.objs.size:=by cases h';simp [aW.update]
  have kl:cM c.env.locals (h'.update c.env.locals λz=>oL) h':=⟨WI.symm,λb hb=>(df h' _ (Ne.symm hb)).symm⟩
  have kb:cM C Uk.heap (h'.update c.env.locals λz=>oL):=⟨by rw [WI,sb'.1,sb1.1],λb hb=>by
   by_cases q:b=c.env.locals
   ·rw [q,cr _ e' hfr,eL]
   ·rw [df h' _ (Ne.symm q),sb'.2 b hb,sb1.2 b q]⟩
  refine eA (hf _ kb) λUc Uf=> ?_
  have U4:=i.mono (mN Uc)
  refine mX U4.loc λm₄ n₄ hm₄=> ?_
  have em:m₄=m₀:=OP n₄ (Vj.sameBut kb hLC)
  subst em
  exact ⟨(nK.of UU).trans ⟨_,_,rfl⟩,U4.store hx n₄ hm₄ (WX.sameBut sb' hLC) kl Uf⟩) hb
end
end
section
open PySem.Calls PyProof.Rows PySem.Builtin.Str
section
variable {w:au}
noncomputable def NB (p:PV):Option Fx:=match p with
 |.fx f=>aa f
 |_=>az
def qy (t:PV):Option (Fx×Fx×Fx):=match t with
 |.tup l=>match l with
  |[a,b,c]=>(NB a).bind λa=>(NB b).bind λb=>(NB c).bind λc=>aa (a,b,c)
  |_=>az
 |_=>az
theorem AM {p:PV} (e:NB p=aa f):p= .fx f:=by
 cases p<;>cases e;rfl
theorem vY (e:qy t=aa q):t= .tup [.fx q.1,.fx q.2.1,.fx q.2.2]:=by
 cases t with
 |tup l=>
  match l with
  |[a,b,c]=>
   refine ng e λx e1 e=>ng e λy e2 e=>ng e λz e3 e=> ?_
   rw [AM e1,AM e2,AM e3];obtain rfl:=am e;rfl
 |_=>exact nE e
def Ig (r g b:Fx) (UZ:PV) (s v:Fx):Option (Bool×PV):=(uM (.fx r) (.fx g) (.fx b)).bind λt=>(qy t).bind λq=>(pJ (.int 2) (.fx q.2.1)).bind λa=>(n0 (.int 2) (.fx s)).bind λc=>(pJ (.fx v) c).bind λd=>
 (qK (.fx q.1) UZ).bind λh=>(wj h (.fx q.2.1) (.fx q.2.2)).bind λu=>aa (rZ a d,u)
def H7 (r g b:Fx) (UZ:PV):Option (Bool×PV):=(oJ (.fx r) (.fx g) (.fx b)).bind λt=>(qy t).bind λq=>(qK (.fx q.1) UZ).bind λh=>(sy h (.fx q.2.1) (.fx q.2.2)).bind λu=>aa (ai,u)
def n9 (f:Fx):Option Int:=(pJ (.int 256) (.fx f)).bind λa=>(qK a (.int 1)).bind λc=>match c with
 |.fx g=>Option.map (λn:Nat=>Int.fdiv (ff n) 2) (HR g)
 |_=>az
def wS (p a:Int) (by_:Int) (s v:Fx):Option Int:=(vz p).bind λh=>(sy h (.fx s) (.fx v)).bind λt=>(qy t).bind λq=>(vz a).bind λUZ=>
 (cond (by_ !=0) (Ig q.1 q.2.1 q.2.2 UZ s v) (H7 q.1 q.2.1 q.2.2 UZ)).bind λz=>(qy z.2).bind λq'=>(oJ (.fx q'.1) (.fx q'.2.1) (.fx q'.2.2)).bind λy=>(qy y).bind λu=>
 (n9 u.1).bind λa0=>(n9 u.2.1).bind λa1=>(n9 u.2.2).bind λa2=>(n9 s).bind λb1=>(n9 v).bind λb2=>
 aa ((a0+64*(if (!(a1==b1&&a2==b2)|| !z.1)=ai then 1 else 0)).fmod 128)
theorem GL (h:pJ p q=aa x):uC x=ai:=by
 refine uR (wi h) λf g k a b c d Ub=> ?_;obtain rfl:=Ub;rfl
theorem Gd.comp (G:Gd w n c) (ho:sY w.params c.X) (k:m4 c.g g) (hn: ∀b∈(ny c scope cl C g Ug).own++Ug,c.g.get? b=az) (hf:(ny c scope cl C g Ug).env.scope.kind= .function):
  Gd w n (ny c scope cl C g Ug):=⟨G.base.keep k,CB (zB G.base λb hb=>hn b (aM _ hb)) ho,G.room,hf,G.gl,G.bl⟩
def nN (f:Fx):Int:=(n9 f).getD 0
theorem we (e:n9 f=aa a):n9 f=aa (nN f):=by unfold nN;rw [e];rfl
theorem CW (G:Gd w n c) {l:List Fx} {qa qb qc qd qe qf qg qh qi qj qk px Vt:Pos} (hl: ∀f∈l,n9 f=aa (nN f)) (hz:l.length<=10)
  (hi:uF mJ w c σ Λ [] (.Name "part" qa) iter (l.map .fx)) (U7:gL sc c.env=bG [])
  (hkf:sc.kind= .function) (hp: ∀C g Ug,sG (ny c sc [] C g Ug) "part") (hfn: ∀C g Ug,(ny c sc [] C g Ug).env.scope.kind= .function) (hki: ∀C g Ug,(ny c sc [] C g Ug).env.kindOf "int"=aa .globalImplicit)
  (XV: ∀y∈sc.names,y.2= .local->sc.names.lookup y.1=aa .local) (hs: ∀x,cP iter c.env x=bG x)
  (hb:mZ mJ w c.env c.A (In c ((y,.list (l.map λf=>.int (nN f)))::σ) Λ) b J)
  (hy:c.env.kindOf y=aa .local) (XM:cK (.ListComp (.BinOp (.Call (.Name "int" qb) [.BinOp (.BinOp (.Constant (.int 256) k1 qc) .Mult (.Name "part" qd) qe) .Add (.Constant (.int 1) k2 qf) qg] [] qh) .FloorDiv (.Constant (.int 2) k3 qi) qj) [⟨.Name "part" qa,iter,[],0⟩] sc qk) (aa (.Name y px)) Vt.line c.env=bG ai):
  mZ mJ w c.env c.A (In c σ Λ) (.Assign [.Name y px] (.ListComp (.BinOp (.Call (.Name "int" qb) [.BinOp (.BinOp (.Constant (.int 256) k1 qc) .Mult (.Name "part" qd) qe) .Add (.Constant (.int 1) k2 qf) qg] [] qh) .FloorDiv (.Constant (.int 2) k3 qi) qj) [⟨.Name "part" qa,iter,[],0⟩] sc qk) Vt::b) J:=by
 have XK:=aw
 refine v7 (l:=l) (V:=.fx) (bs:=λf=>[("part",.fx f)]) (cl:=[]) [] (λz=>ai) (λf=>.int (nN f)) hi nR (λf C g Ug z=>nZ (hp C g Ug) (hfn C g Ug)) (λf C g Ug z z z=>ot) (λf C g Ug hf z k hn ho=> ?_) (λh i=>G.offX i) (by exact (mK (.i (.l xA (.c 10)) (.i (.e xB xL) (.l xA xB))) [_,_]) hz XK) (λz z=>rfl) U7 trivial hkf XV (by exact (bW.mpr (λz z=>rfl))▸hb) hy G.fn XM hs
 have G':=Gd.comp G ho k hn (hfn C g Ug)
 have e:=hl f hf
 refine mX (bd.mp e) λa e1 e=> ?_
 refine mX (bd.mp e) λb e2 e=> ?_
 cases b with
 |fx y=>
  refine mX (dT.mp e) λm e3 e4=> ?_
  rw [<-e4]
  refine mQ (p:=.int m) (q:=.int 2) (oq G' (v:=.type "int") (ps:=[.fx y]) (by kernel_rfl) (by kernel_rfl) (mM (mQ (p:=a) (q:=.int 1) (mQ (p:=.int 256) (q:=.fx f) mT ?_ (pR e1)) mT (qI e2)) mP) (Bt e3) (.inr ⟨_,rfl⟩) (by decide+kernel) (hki C g Ug)) mT (pb (by decide) (by decide))
  exact nF (by walk_at "lk") (hfn C g Ug)
 |_=>exact nE e
set_option maxHeartbeats 2000000 in
structure Sm (p a b:Int) (s v:Fx) (r:Int) (h UZ:PV) (q q' u:Fx×Fx×Fx) (half:Bool):Prop where
 e1:vz p=aa h
 e2:sy h (.fx s) (.fx v)=aa (.tup [.fx q.1,.fx q.2.1,.fx q.2.2])
 e4:vz a=aa UZ
 e5:cond (b !=0) (Ig q.1 q.2.1 q.2.2 UZ s v) (H7 q.1 q.2.1 q.2.2 UZ)=aa (half,.tup [.fx q'.1,.fx q'.2.1,.fx q'.2.2])
 e7:oJ (.fx q'.1) (.fx q'.2.1) (.fx q'.2.2)=aa (.tup [.fx u.1,.fx u.2.1,.fx u.2.2])
 f0: ∀f∈[u.1,u.2.1,u.2.2],n9 f=aa (nN f)
 f3: ∀f∈[s,v],n9 f=aa (nN f)
 eF:(nN u.1+64*(if (!(nN u.2.1==nN s&&nN u.2.2==nN v)|| !half)=ai then 1 else 0)).fmod 128=r
theorem v4 (e:n9 f=aa n):nN f=n:=by unfold nN;rw [e];rfl
theorem I1 (e:wS p a b s v=aa r): ∃h UZ q q' u half,Sm p a b s v r h UZ q q' u half:=by
 exact ng e λh e1 e=>ng e λt e2 e=>ng e λq e3 e=>ng e λUZ e4 e=>ng e λz e5 e=>ng e λq' e6 e=>ng e λy e7 e=>ng e λu e8 e=>
  ng e λt0 f0 e=>ng e λt1 f1 e=>ng e λt2 f2 e=>ng e λk1 f3 e=>ng e λk2 f4 eF=>
  ⟨h,UZ,q,q',u,z.1,e1,e2.trans (congrArg aa (vY e3)),e4,e5.trans (congrArg aa (eU rfl (vY e6))),e7.trans (congrArg aa (vY e8)),
   eH.mpr ⟨we f0,eH.mpr ⟨we f1,eH.mpr ⟨we f2,λz h=>nomatch h⟩⟩⟩,
   eH.mpr ⟨we f3,eH.mpr ⟨we f4,λz h=>nomatch h⟩⟩,by rw [v4 f0,v4 f1,v4 f2,v4 f3,v4 f4];exact am eF⟩
structure Qh (r g b:Fx) (UZ:PV) (s v:Fx) (half:Bool) (z:PV) (q:Fx×Fx×Fx) (a c d h:PV):Prop where
 k1:uM (.fx r) (.fx g) (.fx b)=aa (.tup [.fx q.1,.fx q.2.1,.fx q.2.2])
 k3:pJ (.int 2) (.fx q.2.1)=aa a
 k4:n0 (.int 2) (.fx s)=aa c
 k5:pJ (.fx v) c=aa d
 k6:qK (.fx q.1) UZ=aa h
 k7:wj h (.fx q.2.1) (.fx q.2.2)=aa z
 k8:half=rZ a d
theorem Kb (e:Ig r g b UZ s v=aa (half,z)): ∃q a c d h,Qh r g b UZ s v half z q a c d h:=by
 exact ng e λt k1 e=>ng e λq k2 e=>ng e λa k3 e=>ng e λc k4 e=>ng e λd k5 e=>ng e λh k6 e=>ng e λu k7 e=>by
  cases e
  exact ⟨q,a,c,d,h,k1.trans (congrArg aa (vY k2)),k3,k4,k5,k6,k7,rfl⟩
structure QI (r g b:Fx) (UZ:PV) (half:Bool) (z:PV) (q:Fx×Fx×Fx) (h:PV):Prop where
 k1:oJ (.fx r) (.fx g) (.fx b)=aa (.tup [.fx q.1,.fx q.2.1,.fx q.2.2])
 k6:qK (.fx q.1) UZ=aa h
 k7:sy h (.fx q.2.1) (.fx q.2.2)=aa z
 k8:ai=half
theorem H4 (e:H7 r g b UZ=aa (half,z)): ∃q h,QI r g b UZ half z q h:=by
 exact ng e λt k1 e=>ng e λq k2 e=>ng e λh k6 e=>ng e λu k7 e=>by
  cases e
  exact ⟨q,h,k1.trans (congrArg aa (vY k2)),k6,k7,rfl⟩
theorem Gj (p0:0<=p) (p1:p<128) (a0:0<=a) (a1:a<128) (e:wS p a b s v=aa r):rN mJ w 3 309 [.int p,.int a,.int b,.fx s,.fx v] (.int r):=by
 refine Ob (I1 e) λh UZ q q' u half T=> ?_
 have hz: ∀l:List PV,l.length<=3->l.length<=bo:=λl h=>ch h (by rw [aw];decide)
 refine qL ["place","ahead","by_hls","share","value"] (Nc _) (λvs e=> ?_) (λA X g' L lx G=> ?_)
 ·refine JI (SZ e) λz z z z z Ub=> ?_;obtain rfl:=Ub;kernel_rfl!
 have hh:(A.deeper (bf zU L 309)).handled=az:=G.room.1
 have hu:(A.deeper (bf zU L 309)).units+64<fw:=by have:=G.room.2.2;simp only [m5] at this;exact (mK (.i (.b (.a (.a xA (.m 10 xM)) xP) xB) (.b (.a xA (.c 64)) xB)) [_,_]) this
 have G2:Gd w 2 (m5 zU 309 A X [] g' L):=⟨G.base,G.off,G.room.less (by decide),rfl,rfl,rfl⟩
 have G1:Gd w 1 (m5 zU 309 A X [] g' L):=⟨G.base,G.off,G.room.less (by decide),rfl,rfl,rfl⟩
 refine sC (p:=.tup [.fx q.1,.fx q.2.1,.fx q.2.2]) (oP G2 (ps:=[h,.fx s,.fx v]) (by kernel_rfl) (DQ _).e (mM (oP G2 (ps:=[.int p]) (by kernel_rfl) (D7 _).e (mM ?_ mP) (AH p0 p1 T.e1)) (mM ?_ (mM ?_ mP))) (AT rfl T.e2)) (tG hh) ?_
 ·walk_at "ev"
 ·walk_at "ev"
 ·walk_at "ev"
 refine mS (p:=UZ) (oP G2 (ps:=[.int a]) (by kernel_rfl) (D7 _).e (mM ?_ mP) (AH a0 a1 T.e4)) ?_
 ·walk_at "ev"
 refine mS (p:=.bool ai) sN ?_
 refine (λtail=>nk (d:=b !=0) ?e0 (λc1=>G7 (I':=In (m5 zU 309 A X [] g' L) [("half",.bool half),("red",.fx q'.1),("green",.fx q'.2.1),("blue",.fx q'.2.2),("share",.fx s),("value",.fx v)] []) ?e1 tail) (λc1=>G7 ?e2 tail)) ?tail
 case e0=>
  refine rF (p:=.int b) ?_ Ky
  walk_at "ev"
 case e1=>
  refine JI (Kb (by have:=T.e5;rw [c1] at this;exact this)) λq2 x1 x2 x3 x4 H=> ?_
  refine sC (p:=.tup [.fx q2.1,.fx q2.2.1,.fx q2.2.2]) (oP G1 (ps:=[.fx q.1,.fx q.2.1,.fx q.2.2]) (by kernel_rfl) (DZ _).e (mM ?_ (mM ?_ (mM ?_ mP))) (GF trivial trivial trivial H.k1)) (tG hh) ?_
  ·walk_at "ev"
  ·walk_at "ev"
  ·walk_at "ev"
  refine mS (p:=.bool half) (mW (vm (p:=x1) (q:=x3) (mQ (p:=.int 2) (q:=.fx q2.2.1) ?_ ?_ (pR H.k3)) (mQ (p:=.fx v) (q:=x2) ?_ (mQ (p:=.int 2) (q:=.fx s) ?_ ?_ (nY H.k4)) (pR H.k5)) (tQ (GL H.k3) (GL H.k5))) (congrArg PV.bool H.k8.symm)) ?_
  ·walk_at "ev"
  ·walk_at "ev"
  ·walk_at "ev"
  ·walk_at "ev"
  ·walk_at "ev"
  refine sC (p:=.tup [.fx q'.1,.fx q'.2.1,.fx q'.2.2]) (oP G2 (ps:=[x4,.fx q2.2.1,.fx q2.2.2]) (by kernel_rfl) (Iq _).e (mM (mQ (p:=.fx q2.1) (q:=UZ) ?_ ?_ (qI H.k6)) (mM ?_ (mM ?_ mP))) (Fw rfl H.k7)) (tG hh) (sO λh i=>i.has ?_)
  ·walk_at "ev"
  ·walk_at "ev"
  ·walk_at "ev"
  ·walk_at "ev"
  ·walk_at "has"
 case e2=>
  refine rU (H4 (by have:=T.e5;rw [c1] at this;exact this)) λq2 x4 H=> ?_
  cases H.k8
  refine sC (p:=.tup [.fx q2.1,.fx q2.2.1,.fx q2.2.2]) (oP G1 (ps:=[.fx q.1,.fx q.2.1,.fx q.2.2]) (by kernel_rfl) (vJ _).e (mM ?_ (mM ?_ (mM ?_ mP))) (uV trivial trivial trivial H.k1)) (tG hh) ?_
  ·walk_at "ev"
  ·walk_at "ev"
  ·walk_at "ev"
  refine sC (p:=.tup [.fx q'.1,.fx q'.2.1,.fx q'.2.2]) (oP G2 (ps:=[x4,.fx q2.2.1,.fx q2.2.2]) (by kernel_rfl) (DQ _).e (mM (mQ (p:=.fx q2.1) (q:=UZ) ?_ ?_ (qI H.k6)) (mM ?_ (mM ?_ mP))) (AT rfl H.k7)) (tG hh) (sO λh i=>i.has ?_)
  ·walk_at "ev"
  ·walk_at "ev"
  ·walk_at "ev"
  ·walk_at "ev"
  ·walk_at "has"
 case tail=>
  refine CW (l:=[u.1,u.2.1,u.2.2]) G1 T.f0 (by simp) (Ha (ps:=[u.1,u.2.1,u.2.2].map PV.fx) (oP G1 (ps:=[.fx q'.1,.fx q'.2.1,.fx q'.2.2]) (by kernel_rfl) (vJ _).e (mM ?_ (mM ?_ (mM ?_ mP))) (uV trivial trivial trivial T.e7)) hh (λz h=>nomatch h)) rfl rfl (λC g Ug=>.inl rfl) (λC g Ug=>rfl) (λC g Ug=>rfl) (by decide+kernel) (λx=>rfl) ?_ rfl rfl
  ·walk_at "ev"
  ·walk_at "ev"
  ·walk_at "ev"
  refine CW (l:=[s,v]) G1 T.f3 (by simp) (Ha (ps:=[s,v].map PV.fx) (oE (ps:=[.fx s,.fx v]) (mM ?_ (mM ?_ mP)) (hz _ (by simp))) hh (λz h=>nomatch h)) rfl rfl (λC g Ug=>.inl rfl) (λC g Ug=>rfl) (λC g Ug=>rfl) (by decide+kernel) (λx=>rfl) ?_ rfl rfl
  ·walk_at "ev"
  ·walk_at "ev"
  refine nt (mW (mQ (p:=.int (nN u.1+64*(if (!(nN u.2.1==nN s&&nN u.2.2==nN v)|| !half)=ai then 1 else 0))) (q:=.int 128) (mQ (p:=.int (nN u.1)) (q:=.int (64*(if (!(nN u.2.1==nN s&&nN u.2.2==nN v)|| !half)=ai then 1 else 0))) (nA (p:=.list [.int (nN u.1),.int (nN u.2.1),.int (nN u.2.2)]) (q:=.int 0) ?_ mT (ni (by decide) rfl (by decide))) (mQ (p:=.int 64) (q:=.bool (!(nN u.2.1==nN s&&nN u.2.2==nN v)|| !half)) mT (Ro (p:=.bool (!(nN u.2.1==nN s&&nN u.2.2==nN v))) (q:=.bool (!half)) (a:= !(nN u.2.1==nN s&&nN u.2.2==nN v)) (vm (p:=.list [.int (nN u.2.1),.int (nN u.2.2)]) (q:=.list [.int (nN s),.int (nN v)]) (mW (tD (ps:=[.int (nN u.1),.int (nN u.2.1),.int (nN u.2.2)]) (lo:=aa 1) (hi:=az) ?_ (n8 mT) rO (hz _ (by simp))) rfl) ?_ (te (Fm hu rfl rfl rfl rfl) (by simp [da,gu]))) qA (λz=>r7 (p:=.bool half) ?_ GC) ?_) GA) n6) mT (oA (by decide))) (congrArg PV.int T.eF))
  ·walk_at "ev"
  ·walk_at "ev"
  ·walk_at "ev"
  ·walk_at "ev"
  ·cases (nN u.2.1==nN s&&nN u.2.2==nN v)<;>rfl
end
section
variable {w:au}
abbrev IL:=List Int
noncomputable def ss (l:IL):List PV:=l.map PV.int
def il (l:IL):PV:=.list (ss l)
noncomputable def nq (rows:List IL) (i:Nat):IL:=(rows[i]?).getD []
def qt (rows:List IL) (last n k:Nat):IL:=(ag k).foldl (λt i=>t++aH ((nq rows (n+1+i)).length - (nq rows (n+i)).length) ((last:Int) - ((n+1+i:Nat):Int)+1)) []
noncomputable def uw (sh:Int) (W2:IL):IL:=(dF (W2++[0]) (0::W2)).map λq=>q.1+sh*q.2
def tB (rows:List IL) (last n i:Nat):IL:=aH i ((last:Int) - n)++aH ((nq rows n).length - 2 - i) ((last:Int) - n+1)++qt rows last n (last - n)
def qN (x:Int) (Ve:IL):IL:=Ve.foldl (λs sh=>uw sh s) [x]
noncomputable def AO (t s:IL):IL:=(dF t s).map λq=>q.1+q.2
def r9 (rows:List IL) (last n k:Nat) (Vb:IL):IL:=(ag k).foldl (λt i=>AO t (qN ((nq rows n)[i]?.getD 0) (tB rows last n i))) Vb
def rR (rows:List IL) (last k:Nat):IL:=(ag k).foldl (λt n=>r9 rows last n ((nq rows n).length - 1) t) (aH ((nq rows last).length - 1) 0)
def zH (rows:List IL):IL:=((nq rows (rows.length - 1)).getLast?.getD 0::rR rows (rows.length - 1) rows.length).map λx=>x.fmod 128
theorem va (rows:List IL) (last n k:Nat):qt rows last n (k+1)=qt rows last n k++aH ((nq rows (n+1+k)).length - (nq rows (n+k)).length) ((last:Int) - ((n+1+k:Nat):Int)+1):=by
 unfold qt;rw [cy,dc];rfl
theorem w8 (rows:List IL) (last n k:Nat) (Vb:IL):r9 rows last n (k+1) Vb=AO (r9 rows last n k Vb) (qN ((nq rows n)[k]?.getD 0) (tB rows last n k)):=by
 unfold r9;rw [cy,dc];rfl
theorem yM (rows:List IL) (last k:Nat):rR rows last (k+1)=r9 rows last k ((nq rows k).length - 1) (rR rows last k):=by
 unfold rR;rw [cy,dc];rfl
theorem Jj (sh:Int) (s:IL):(uw sh s).length=s.length+1:=by unfold uw;simp
theorem Gy (x:Int) (Ve:IL) (k:Nat) (sh:Int) (e:Ve[k]? =aa sh):qN x (Ve.take (k+1))=uw sh (qN x (Ve.take k)):=by
 unfold qN;rw [gA,e];simp [dc]
theorem BR (x:Int) (Ve:IL):(qN x Ve).length=Ve.length+1:=by
 unfold qN
 have: ∀(l:IL) (s:IL),(l.foldl (λs sh=>uw sh s) s).length=s.length+l.length:=by
  intro l
  induction l with
  |nil=>intro s;rfl
  |cons a l ih=>intro s;rw [eY,ih,Jj,aU];exact mK (.e (.a (.a xA xI) xB) (.a xA (.a xB xI))) [_,_]
 rw [this];simp;exact mK (.e (.a xI xA) (.a xA xI)) [_]
theorem LQ (t s:IL):(AO t s).length<=t.length:=by unfold AO;simp;exact mK (.l (.n xA xB) xA) [_,_]
theorem yg (rows:List IL) (last n:Nat) (Vb:IL): ∀k,(r9 rows last n k Vb).length<=Vb.length
 |0=>aN _
 |k+1=>by rw [w8];exact ch (LQ _ _) (yg rows last n Vb k)
theorem AQ (rows:List IL) (last:Nat): ∀k,(rR rows last k).length<=(nq rows last).length - 1
 |0=>by unfold rR;simp
 |k+1=>by rw [yM];exact ch (yg _ _ _ _ _) (AQ rows last k)
theorem vg {rows:List IL} (h: ∀r∈rows,r.length<=5) (i:Nat):(nq rows i).length<=5:=by
 unfold nq
 cases e:rows[i]? with
 |none=>simp
 |some r=>exact h r (bu e)
theorem yA {rows:List IL} (h: ∀r∈rows,r.length<=5) (last n:Nat): ∀k,(qt rows last n k).length<=5*k
 |0=>by unfold qt;simp
 |k+1=>by
  rw [va,af,a8]
  have:=yA h last n k
  have:=vg h (n+1+k)
  exact (mK (.i (.l xA (.m 5 xD)) (.i (.l xB xN) (.l (.a xA (.s xB xC)) (.m 5 (.a xD xI))))) [_,_,_,_]) (by assumption) this
theorem xX (h:i<rows.length):(rows.map il)[i]? =aa (il (nq rows i)):=by
 unfold nq;rw [a7,aA h];rfl
theorem zZ (a b:IL):ss (a++b)=ss a++ss b:=bi
theorem zE (n:Nat) (x:Int):ss (aH n x)=(aH n [PV.int x]).flatten:=by
 unfold ss;rw [fa,List.flatten_replicate_singleton]
theorem pg (a:IL):(ss a).length=a.length:=ah _
noncomputable def pr (q:Int×Int):PV:=.tup [.int q.1,.int q.2]
theorem FC: ∀a b:IL,(ji (λp q=>[p,q]) (ss a) (ss b)).map PV.tup=(dF a b).map pr
 |[],_=>rfl
 |_::_,[]=>rfl
 |x::a,y::b=>by
  exact congrArg _ (FC a b)
theorem Kk (rows:List IL):(((rows.map il).mapIdx λi p=>[PV.int i,p]).map PV.tup)=(ag rows.length).map λ(n:Nat)=>PV.tup [.int n,il (nq rows n)]:=by
 apply gQ
 ·simp
 ·intro i h1 h2
  have hi:i<rows.length:=by simpa using h1
  simp [nq,aA hi]
theorem Ba {α β:Type} (l:List α) (o:α->β):(l.filter λz=>ai).map o=l.map o:=by rw [bW.mpr (λz z=>rfl)]
theorem E5 (hp:ps.getLast? =aa p):og prog w A X (dS value UG) (.list ps) (.int (-1)) p:=λs x y z r q=>by
 refine nw r ?_;clear r;intro a vs Ub ha hl rs;obtain rfl:=Ub;obtain ⟨u,rfl⟩:=q
 rw [j5] at hp
 have Uo:ps.length - 1<ps.length:=(aT.mp hp).1
 refine mX (rs.get hp) λv e rv=> ?_
 have hsz:=rs.len
 refine vN hl.typeIs fP.lookup (wpAny_getItem_list_neg hl (by decide) (by simp;exact (mK (.i (.b (.s xB xI) xB) (.i (.e xA xB) (.L xI (.k xA)))) [_,_]) Uo hsz) (by decide) (x:=v) ?_ ⟨mU _,rv⟩)
 have:((-1:Int)+(vs.toArray.size:Nat)).toNat=ps.length - 1:=by simp;exact (mK (.i (.e xA xB) (.e (.t (.a (.g xI) (.k xA))) (.s xB xI))) [_,_]) hsz
 rw [this];simpa using e
end
section
variable {w:au}
theorem La (hn:n<=last) (hl:last<=3) (hrows:rows.length=last+1): ∀x∈tB rows last n i,0<=x/\x<=4:=by
 have later: ∀k,k<=last - n-> ∀x∈qt rows last n k,0<=x/\x<=4:=by
  intro k
  induction k with
  |zero=>intro _ x hx;simp [qt] at hx
  |succ k ih=>
   intro hk x hx
   rw [va] at hx
   rcases ar.mp hx with q|q
   ·exact ih (by exact (mK (.i (.l (.a xA xI) (.s xB xC)) (.l xA (.s xB xC))) [_,_,_]) hk) x q
   ·rw [(dW.mp q).2];exact (mK (.i (.l xA xO) (.i (.l (.a xC xI) (.s xA xB)) (.a (.L xJ (.a (.s (.k xA) (.k (.a (.a xB xI) xC))) xI)) (.L (.a (.s (.k xA) (.k (.a (.a xB xI) xC))) xI) xK)))) [_,_,_]) hl hk
 intro x hx
 unfold tB at hx
 rcases ar.mp hx with q|q
 ·rcases ar.mp q with q|q
  ·rw [(dW.mp q).2];exact (mK (.i (.l xB xA) (.i (.l xA xO) (.a (.L xJ (.s (.k xA) (.k xB))) (.L (.s (.k xA) (.k xB)) xK)))) [_,_]) hn hl
  ·rw [(dW.mp q).2];exact (mK (.i (.l xB xA) (.i (.l xA xO) (.a (.L xJ (.a (.s (.k xA) (.k xB)) xI)) (.L (.a (.s (.k xA) (.k xB)) xI) xK)))) [_,_]) hn hl
 ·exact later _ (aN _) x q
theorem Jy (h:0<=x/\x<=4):IntMulOk x y:=by
 obtain ⟨h0,h1⟩:=h
 have:x=0\/x=1\/x=2\/x=3\/x=4:=by exact (mK (.i (.L xJ xA) (.i (.L xA xK) (.o (.E xA xJ) (.o (.E xA xI) (.o (.E xA xM) (.o (.E xA xO) (.E xA xK))))))) [] [_]) h0 h1
 rcases this with rfl|rfl|rfl|rfl|rfl<;>exact .of_left (by decide+kernel)
theorem A3 (h1:0<=a) (h2:a<=1000000) (h3:0<=b) (h4:b<=1000000):jJ a b 1=ai:=small_one (by exact (mK (.i (.L xJ xA) (.L (.g M9) xA)) [] [_]) h1) (by exact (mK (.i (.L xA (.c 1000000)) (.B xA M9)) [] [_]) h2) (by exact (mK (.i (.L xJ xA) (.L (.g M9) xA)) [] [_]) h3) (by exact (mK (.i (.L xA (.c 1000000)) (.B xA M9)) [] [_]) h4)
set_option maxHeartbeats 4000000 in
theorem KD (h0:1<=rows.length) (h4:rows.length<=4) (h5: ∀r∈rows,r.length<=5) (h1: ∀r∈rows,1<=r.length):rN mJ w 1 321 [.list (rows.map il)] (il (zH rows)):=by
 refine qL ["rows"] (NI _) (λvs e=> ?_) (λA X g' L lx G=> ?_)
 ·refine eE (vr e) λz Ub=> ?_;obtain rfl:=Ub;kernel_rfl!
 ·have hh:(A.deeper (bf IR L 321)).handled=az:=G.room.1
  have hz:=aw
  obtain ⟨last,Uz⟩: ∃last,rows.length=last+1:=⟨rows.length - 1,by exact (mK (.i (.l xI xA) (.e xA (.a (.s xA xI) xI))) [_]) h0⟩
  have W5: ∀i,i<rows.length->1<=(nq rows i).length:=λi hi=>by
   unfold nq;rw [aA hi];exact h1 _ (dn hi)
  have hL1:=W5 last (by exact (mK (.i (.e xB (.a xA xI)) (.b xA xB)) [_,_]) Uz)
  have hL5:=vg h5 last
  refine mS (p:=.int last) (mW (mQ (p:=.int ((rows.map il).length:Nat)) (q:=.int 1) (oq G (ps:=[.list (rows.map il)]) (by kernel_rfl) (by kernel_rfl) (mM ?_ mP) (so (by rw [ah];exact (mK (.i (.l xA xK) (.l xA (.c 1000000))) [_]) h4))) mT nU) (by rw [ah,Uz];exact congrArg _ (mK (.E (.s (.k (.a xA xI)) xI) (.k xA)) [_]))) ?_
  ·walk_at "ev"
  refine mS (p:=il (aH ((nq rows last).length - 1) 0)) (mW (u9 (ps:=[.int 0]) (k:=((nq rows last).length:Int) - 1) (mM mT mP) (mQ (p:=.int ((ss (nq rows last)).length:Nat)) (q:=.int 1) (oq G (ps:=[il (nq rows last)]) (by kernel_rfl) (by kernel_rfl) (mM (nA (p:=.list (rows.map il)) (q:=.int last) ?_ ?_ (ni (by exact mK (.L xJ (.k xA)) [_]) (by rw [ca];exact xX (by exact (mK (.i (.e xB (.a xA xI)) (.b xA xB)) [_,_]) Uz)) (by exact (mK (.i (.l xB xK) (.i (.e xB (.a xA xI)) (.B (.k xA) xS))) [_,_]) h4 Uz))) mP) (so (by rw [pg];exact (mK (.i (.l xA xN) (.l xA (.c 1000000))) [_]) hL5))) mT (te nU (by rw [pg]))) (by decide) (by simp) (by exact mK (.L (.g xS) (.s (.k xA) xI)) [_]) (by exact (mK (.i (.l xA xN) (.L (.s (.k xA) xI) (.c 10000))) [_]) hL5)) (by
   unfold il;rw [zE];congr 3;exact mK (.e (.t (.s (.k xA) xI)) (.s xA xI)) [_])) ?_
  ·walk_at "ev"
  ·walk_at "ev"
  refine pf (σ':=[("total",il (rR rows last 0)),("rows",.list (rows.map il)),("last",.int last)]) (by walk_at "has") ?_
  refine rQ G (l:=ag rows.length) (V:=λ(n:Nat)=>.tup [.int n,il (nq rows n)]) (bs:=λn=>[("row",il (nq rows n)),("n",.int n)]) (λk=>[("total",il (rR rows last k)),("rows",.list (rows.map il)),("last",.int last)]) (λz=>[])
   (Kk rows▸Lq (tq (r6 G (by kernel_rfl) (by kernel_rfl)) (mM (by walk_at "ev") mP)) hh (λb hb=>ax _ hb)) rfl rfl (λn is z=>re hh) (λi n g1 is1 hi G1=> ?_) ?_
  ·obtain ⟨hn,rfl⟩:n<rows.length/\n=i:=by
    obtain ⟨h1,h2⟩:=aT.mp hi
    rw [cX] at h2
    exact ⟨by rw [<-h2];simpa using h1,h2.symm⟩
   clear hi
   have hh1:=hh
   have WP:=vg h5 n
   have hlr1:=W5 n hn
   refine mS (p:=il []) (qo mP (cx _)) ?_
   refine pf (σ':=[("later",il (qt rows last n 0)),("row",il (nq rows n)),("n",.int n),("total",il (rR rows last n)),("rows",.list (rows.map il)),("last",.int last)]) (by walk_at "has") ?_
   refine rQ G1 (l:=ag (last - n)) (V:=λ(k:Nat)=>.int (((n:Int)+1)+k)) (bs:=λk=>[("j",.int (((n:Int)+1)+k))]) (λk=>[("later",il (qt rows last n k)),("row",il (nq rows n)),("n",.int n),("total",il (rR rows last n)),("rows",.list (rows.map il)),("last",.int last)]) (λz=>[])
    (zt (a:=(n:Int)+1) (b:=(last:Int)+1) (n:=last - n) (KT (tq (r6 G1 (by kernel_rfl) (by kernel_rfl)) (mM (mQ (p:=.int n) (q:=.int 1) ?_ mT n6) (mM (mQ (p:=.int last) (q:=.int 1) ?_ mT n6) mP)))) ?_ ?_ hh) rfl rfl (λk is z=>nZ) (λk k' g2 Vd hk G2=> ?_) ?_
   ·walk_at "ev"
   ·walk_at "ev"
   ·rw [lB];split<;>(first|exact (mK (.i (.B (.a (.k xB) xI) (.a (.k xA) xI)) (.E (.s (.a (.k xA) xI) (.a (.k xB) xI)) (.k (.s xA xB)))) [_,_]) (by assumption)|exact (mK (.i (.n (.B (.a (.k xB) xI) (.a (.k xA) xI))) (.E xJ (.k (.s xA xB)))) [_,_]) (by assumption))
   ·exact A3 (by exact mK (.L xJ (.a (.k xA) xI)) [_]) (by exact (mK (.i (.l xB xK) (.i (.b xA xB) (.L (.a (.k xA) xI) (.c 1000000)))) [_,_]) h4 hn) (by exact mK (.L xJ (.a (.k xA) xI)) [_]) (by exact (mK (.i (.l xB xK) (.i (.e xB (.a xA xI)) (.L (.a (.k xA) xI) (.c 1000000)))) [_,_]) h4 Uz)
   ·obtain ⟨VO,rfl⟩:k'<last - n/\k'=k:=by
     obtain ⟨h1,h2⟩:=aT.mp hk
     rw [cX] at h2
     exact ⟨by rw [<-h2];simpa using h1,h2.symm⟩
    clear hk
    have ej:((n:Int)+1)+(k':Int)=((n+1+k':Nat):Int):=by exact mK (.E (.a (.a (.k xA) xI) (.k xB)) (.k (.a (.a xA xI) xB))) [_,_]
    rw [ej]
    have hj5:=vg h5 (n+1+k')
    have hj5':=vg h5 (n+k')
    have Ux:=yA h5 last n k'
    refine mS (p:=il (qt rows last n (k'+1))) (mW (mQ (p:=il (qt rows last n k')) (q:=il (aH ((nq rows (n+1+k')).length - (nq rows (n+k')).length) ((last:Int) - ((n+1+k':Nat):Int)+1))) ?_
     (mW (u9 (ps:=[.int ((last:Int) - ((n+1+k':Nat):Int)+1)]) (k:=((nq rows (n+1+k')).length:Int) - ((nq rows (n+k')).length:Int)) (mM (mQ (p:=.int ((last:Int) - ((n+1+k':Nat):Int))) (q:=.int 1) (mQ (p:=.int last) (q:=.int ((n+1+k':Nat):Int)) ?_ ?_ nU) mT n6) mP)
      (mQ (p:=.int ((ss (nq rows (n+1+k'))).length:Nat)) (q:=.int ((ss (nq rows (n+k'))).length:Nat)) (oq G2 (ps:=[il (nq rows (n+1+k'))]) (by kernel_rfl) (by kernel_rfl) (mM (nA (p:=.list (rows.map il)) (q:=.int ((n+1+k':Nat):Int)) ?_ ?_ (ni (by exact mK (.L xJ (.k (.a (.a xA xI) xB))) [_,_]) (by rw [ca];exact xX (by exact (mK (.i (.e xC (.a xD xI)) (.i (.b xB (.s xD xA)) (.b (.a (.a xA xI) xB) xC))) [_,_,_,_]) Uz VO)) (by exact (mK (.i (.l xC xK) (.i (.e xC (.a xD xI)) (.i (.b xB (.s xD xA)) (.B (.k (.a (.a xA xI) xB)) xS)))) [_,_,_,_]) h4 Uz VO))) mP) (so (by rw [pg];exact (mK (.i (.l xA xN) (.l xA (.c 1000000))) [_]) hj5)))
       (oq G2 (ps:=[il (nq rows (n+k'))]) (by kernel_rfl) (by kernel_rfl) (mM (nA (p:=.list (rows.map il)) (q:=.int ((n+k':Nat):Int)) ?_ (mQ (p:=.int ((n+1+k':Nat):Int)) (q:=.int 1) ?_ mT (te nU (by exact congrArg _ (mK (.E (.s (.k (.a (.a xA xI) xB)) xI) (.k (.a xA xB))) [_,_])))) (ni (by exact mK (.L xJ (.k (.a xA xB))) [_,_]) (by rw [ca];exact xX (by exact (mK (.i (.e xC (.a xD xI)) (.i (.b xB (.s xD xA)) (.b (.a xA xB) xC))) [_,_,_,_]) Uz VO)) (by exact (mK (.i (.l xC xK) (.i (.e xC (.a xD xI)) (.i (.b xB (.s xD xA)) (.B (.k (.a xA xB)) xS)))) [_,_,_,_]) h4 Uz VO))) mP) (so (by rw [pg];exact (mK (.i (.l xA xN) (.l xA (.c 1000000))) [_]) hj5')))
       (te nU (by rw [pg,pg]))) (by simp) (by simp) (by exact (mK (.i (.l xB xN) (.L (.g xS) (.s (.k xA) (.k xB)))) [_,_]) hj5') (by exact (mK (.i (.l xA xN) (.L (.s (.k xA) (.k xB)) (.c 10000))) [_,_]) hj5)) (by unfold il;rw [zE];congr 3;exact mK (.e (.t (.s (.k xA) (.k xB))) (.s xA xB)) [_,_])) (pV (by rw [pg,pg,a8];exact (mK (.i (.l xE xK) (.i (.e xD xL) (.i (.e xE (.a xF xI)) (.i (.b xG (.s xF xH)) (.i (.l xB xN) (.i (.l xA (.m 5 xG)) (.l (.a xA (.s xB xC)) xD))))))) [_,_,_,_,_,_,_,_]) h4 hz Uz VO hj5 Ux))) (by rw [va];unfold il;rw [zZ])) (qT (by walk_at "has"))
    ·walk_at "ev"
    ·walk_at "ev"
    ·walk_at "ev"
    ·walk_at "ev"
    ·walk_at "ev"
    ·walk_at "ev"
    ·walk_at "ev"
   ·refine pf (σ':=[("total",il (r9 rows last n 0 (rR rows last n))),("later",il (qt rows last n (last - n))),("row",il (nq rows n)),("n",.int n),("rows",.list (rows.map il)),("last",.int last)]) ?_ ?_
    ·rw [be];walk_at "has"
    have Ux:=yA h5 last n (last - n)
    refine rQ G1 (l:=ag ((nq rows n).length - 1)) (V:=λ(k:Nat)=>.int ((0:Int)+k)) (bs:=λk=>[("i",.int ((0:Int)+k))]) (λk=>[("total",il (r9 rows last n k (rR rows last n))),("later",il (qt rows last n (last - n))),("row",il (nq rows n)),("n",.int n),("rows",.list (rows.map il)),("last",.int last)]) (λz=>[])
     (zt (a:=0) (b:=((nq rows n).length:Int) - 1) (n:=(nq rows n).length - 1) (DJ (tq (r6 G1 (by kernel_rfl) (by kernel_rfl)) (mM (mQ (p:=.int ((ss (nq rows n)).length:Nat)) (q:=.int 1) (oq G1 (ps:=[il (nq rows n)]) (by kernel_rfl) (by kernel_rfl) (mM ?_ mP) (so (by rw [pg];exact (mK (.i (.l xA xN) (.l xA (.c 1000000))) [_]) WP))) mT (te nU (by rw [pg]))) mP))) ?_ ?_ hh) rfl rfl (λk is z=>nZ) (λk k' g2 Vd hk G2=> ?_) ?_
    ·walk_at "ev"
    ·rw [lB];split<;>(first|exact (mK (.i (.B xJ (.s (.k xA) xI)) (.E (.s (.s (.k xA) xI) xJ) (.k (.s xA xI)))) [_]) (by assumption)|exact (mK (.i (.n (.B xJ (.s (.k xA) xI))) (.E xJ (.k (.s xA xI)))) [_]) (by assumption))
    ·exact A3 (by exact mK (.L xJ xJ) [] []) (by exact mK (.L xJ (.c 1000000)) [] []) (by exact (mK (.i (.l xI xA) (.L xJ (.s (.k xA) xI))) [_]) hlr1) (by exact (mK (.i (.l xA xN) (.L (.s (.k xA) xI) (.c 1000000))) [_]) WP)
    ·obtain ⟨VO,rfl⟩:k'<(nq rows n).length - 1/\k'=k:=by
      refine eE (aT.mp hk) λh1 h2=> ?_
      rw [cX] at h2
      exact ⟨by rw [<-h2];simpa using h1,h2.symm⟩
     clear hk
     rw [fv]
     have hx:(nq rows n)[k']? =aa ((nq rows n)[k']?.getD 0):=by
      rw [aA (by exact (mK (.i (.b xA (.s xB xI)) (.b xA xB)) [_,_]) VO)];rfl
     generalize hX:(nq rows n)[k']?.getD 0=x0 at hx
     have hok:=La (i:=k') (by exact (mK (.i (.e xC (.a xB xI)) (.i (.b xA xC) (.l xA xB))) [_,_,_]) Uz hn) (by exact (mK (.i (.l xB xK) (.i (.e xB (.a xA xI)) (.l xA xO))) [_,_]) h4 Uz) Uz (rows:=rows) (n:=n)
     have VE:(tB rows last n k').length<=30:=by unfold tB;simp only [af,a8];exact (mK (.i (.l xD xK) (.i (.e xD (.a xE xI)) (.i (.l xB xN) (.i (.l xC (.m 5 (.s xE xF))) (.i (.b xA (.s xB xI)) (.l (.a (.a xA (.s (.s xB xM) xA)) xC) (.c 30))))))) [_,_,_,_,_,_]) h4 Uz WP Ux VO
     generalize hS:tB rows last n k'=Ve at hok VE
     refine mS (p:=il (qN x0 [])) (qo (ps:=[.int x0]) (mM (nA (p:=il (nq rows n)) (q:=.int k') ?_ ?_ (ni (by exact mK (.L xJ (.k xA)) [_]) (by rw [ca];unfold ss;rw [a7,hx];rfl) (by exact (mK (.i (.l xB xN) (.i (.b xA (.s xB xI)) (.B (.k xA) xS))) [_,_]) WP VO))) mP) (by simp;exact (mK (.i (.e xA xL) (.l xI xA)) [_]) hz)) ?_
     ·walk_at "ev"
     ·walk_at "ev"
     refine pf (σ':=[("share",il (qN x0 (Ve.take 0))),("i",.int k'),("total",il (r9 rows last n k' (rR rows last n))),("later",il (qt rows last n (last - n))),("row",il (nq rows n)),("n",.int n),("rows",.list (rows.map il)),("last",.int last)]) (by walk_at "has") ?_
     refine rQ G2 (l:=Ve) (V:=PV.int) (bs:=λk=>[("shift",.int k)]) (λk=>[("share",il (qN x0 (Ve.take k))),("i",.int k'),("total",il (r9 rows last n k' (rR rows last n))),("later",il (qt rows last n (last - n))),("row",il (nq rows n)),("n",.int n),("rows",.list (rows.map il)),("last",.int last)]) (λz=>[])
      (qJ (mW (mQ (p:=.list (ss (aH k' ((last:Int) - n))++ss (aH ((nq rows n).length - 2 - k') ((last:Int) - n+1)))) (q:=il (qt rows last n (last - n))) (mQ (p:=il (aH k' ((last:Int) - n))) (q:=il (aH ((nq rows n).length - 2 - k') ((last:Int) - n+1)))
       (mW (u9 (ps:=[.int ((last:Int) - n)]) (k:=(k':Int)) (mM (mQ (p:=.int last) (q:=.int n) ?_ ?_ nU) mP) ?_ (by simp) (fE _ _) (by exact mK (.L (.g xS) (.k xA)) [_]) (by exact (mK (.i (.l xB xN) (.i (.b xA (.s xB xI)) (.L (.k xA) (.c 10000)))) [_,_]) WP VO)) (by unfold il;rw [zE];congr 3))
       (mW (u9 (ps:=[.int ((last:Int) - n+1)]) (k:=((nq rows n).length:Int) - 2 - k') (mM (mQ (p:=.int ((last:Int) - n)) (q:=.int 1) (mQ (p:=.int last) (q:=.int n) ?_ ?_ nU) mT n6) mP)
        (mQ (p:=.int (((nq rows n).length:Int) - 2)) (q:=.int k') (mQ (p:=.int ((ss (nq rows n)).length:Nat)) (q:=.int 2) (oq G2 (ps:=[il (nq rows n)]) (by kernel_rfl) (by kernel_rfl) (mM ?_ mP) (so (by rw [pg];exact (mK (.i (.l xA xN) (.l xA (.c 1000000))) [_]) WP))) mT (te nU (by rw [pg]))) ?_ nU) (by simp) (fE _ _) (by exact (mK (.i (.b xB (.s xA xI)) (.L (.g xS) (.s (.s (.k xA) xM) (.k xB)))) [_,_]) VO) (by exact (mK (.i (.l xA xN) (.L (.s (.s (.k xA) xM) (.k xB)) (.c 10000))) [_,_]) WP)) (by unfold il;rw [zE];congr 3;exact mK (.e (.t (.s (.s (.k xA) xM) (.k xB))) (.s (.s xA xM) xB)) [_,_]))
       (pV (by rw [pg,pg,a8,a8];exact (mK (.i (.e xC xL) (.i (.l xB xN) (.i (.b xA (.s xB xI)) (.l (.a xA (.s (.s xB xM) xA)) xC)))) [_,_,_]) hz WP VO))) ?_ (pV (by rw [af,pg,pg,pg,a8,a8];exact (mK (.i (.l xE xK) (.i (.e xD xL) (.i (.e xE (.a xF xI)) (.i (.l xB xN) (.i (.l xC (.m 5 (.s xF xG))) (.i (.b xA (.s xB xI)) (.l (.a (.a xA (.s (.s xB xM) xA)) xC) xD))))))) [_,_,_,_,_,_,_]) h4 hz Uz WP Ux VO))) (by rw [<-zZ,<-zZ,<-hS];rfl)) hh (.inl ⟨_,_,rfl⟩) (λb hb=>ax _ hb)) rfl rfl (λk is z=>nZ (.inr ⟨L+1,oi.of (vi (fd:=IR) (a:=321) (A:=A) (X:=X) (M:=[]) (g:=g') rfl (by kernel_rfl) (by kernel_rfl)) rfl (λb hb=>hb)⟩)) (λk sh g3 is3 hk3 G3=> ?_) ?_
     ·walk_at "ev"
     ·walk_at "ev"
     ·walk_at "ev"
     ·walk_at "ev"
     ·walk_at "ev"
     ·walk_at "ev"
     ·walk_at "ev"
     ·walk_at "ev"
     ·have hsh:=hok sh (bu hk3)
      have U7:(qN x0 (Ve.take k)).length<=31:=by rw [BR,dm];exact (mK (.i (.l xB (.c 30)) (.l (.a (.n xA xB) xI) (.c 31))) [_,_]) VE
      have UY:=Gy x0 Ve k sh hk3
      generalize qN x0 (Ve.take k)=cur at U7 UY ⊢
      refine v7 (l:=dF (cur++[0]) (0::cur)) (V:=pr) (bs:=λq=>[("b",.int q.2),("a",.int q.1)]) (cl:=[("shift",L+1)]) [("shift",.int sh)] (λz=>ai) (λq=>.int (q.1+sh*q.2))
       ?h1 ?h2 ?h3 ?h4 ?h5 ?h6 ?h7 ?h8 ?h9 ?h10 ?h11 ?h12 ?h13 ?h14 ?h15 ?h16 ?h17
      case h1=>exact FC (cur++[0]) (0::cur)▸GX (ps:=ss (cur++[0])) (qs:=ss (0::cur)) (tq (r6 G3 (by kernel_rfl) (by kernel_rfl)) (mM (mW (mQ (p:=il cur) (q:=.list [.int 0]) (by walk_at "ev") (qo (mM mT mP) (by simp;exact (mK (.i (.e xA xL) (.l xI xA)) [_]) hz)) (pV (by rw [pg];simp;exact (mK (.i (.e xB xL) (.i (.l xA (.c 31)) (.l (.a xA xI) xB))) [_,_]) hz U7))) (by rw [zZ];rfl)) (mM (mQ (p:=.list [.int 0]) (q:=il cur) (qo (mM mT mP) (by simp;exact (mK (.i (.e xA xL) (.l xI xA)) [_]) hz)) (by walk_at "ev") (pV (by rw [pg];simp;exact (mK (.i (.e xB xL) (.i (.l xA (.c 31)) (.l (.a xI xA) xB))) [_,_]) hz U7))) mP))) hh (λb hb=>nomatch hb)
      case h2=>exact (oa nR (by walk_at "lk") (.inl rfl) (λz=>by kernel_rfl) (λz=>.inl (by kernel_rfl)))
      case h3=>exact (λq C g Ug z=>re hh)
      case h4=>exact (λq C g Ug z z z=>ot)
      case h5=>
       refine (λq C g Ug z z z z z=>mQ (p:=.int q.1) (q:=.int (sh*q.2)) ?_ (mQ (p:=.int sh) (q:=.int q.2) ?_ ?_ (By (Jy hsh))) n6)
       ·walk_at "ev"
       ·walk_at "ev"
       ·walk_at "ev"
      case h6=>exact (λh i=>G3.offX i)
      case h7=>simp;exact (mK (.i (.e xB xL) (.i (.l xA (.c 31)) (.l (.a xA xI) xB))) [_,_]) hz U7
      case h8=>exact (λz z=>by kernel_rfl)
      case h9=>kernel_rfl
      case h10=>exact ⟨by kernel_rfl,trivial⟩
      case h11=>rfl
      case h12=>decide+kernel
      case h13=>
       rw [Ba]
       have:PV.list ((dF (cur++[0]) (0::cur)).map λq=>PV.int (q.1+sh*q.2))=il (qN x0 (Ve.take (k+1))):=by
        rw [UY];unfold il uw ss;rw [aB];rfl
       rw [this]
       exact qT (by walk_at "has")
      case h14=>rfl
      case h15=>rfl
      case h16=>rfl
      case h17=>intro _;rfl
     ·rw [eJ]
      have U7:(qN x0 Ve).length<=31:=by rw [BR];exact (mK (.i (.l xA (.c 30)) (.l (.a xA xI) (.c 31))) [_]) VE
      have Wi:=yg rows last n (rR rows last n) k'
      have htl2:=AQ rows last n
      have UY:=w8 rows last n k' (rR rows last n)
      rw [hX,hS] at UY
      generalize qN x0 Ve=cur at U7 UY ⊢
      generalize r9 rows last n k' (rR rows last n)=Vb at Wi UY ⊢
      refine v7 (l:=dF Vb cur) (V:=pr) (bs:=λq=>[("b",.int q.2),("a",.int q.1)]) (cl:=[]) [] (λz=>ai) (λq=>.int (q.1+q.2))
       ?h1 ?h2 ?h3 ?h4 ?h5 ?h6 ?h7 ?h8 ?h9 ?h10 ?h11 ?h12 ?h13 ?h14 ?h15 ?h16 ?h17
      case h1=>exact FC Vb cur▸GX (ps:=ss Vb) (qs:=ss cur) (tq (r6 G2 (by kernel_rfl) (by kernel_rfl)) (mM (by walk_at "ev") (mM (by walk_at "ev") mP))) hh (λb hb=>nomatch hb)
      case h2=>exact nR
      case h3=>exact (λq C g Ug z=>re hh)
      case h4=>exact (λq C g Ug z z z=>ot)
      case h5=>
       refine (λq C g Ug z z z z z=>mQ (p:=.int q.1) (q:=.int q.2) ?_ ?_ n6)
       ·walk_at "ev"
       ·walk_at "ev"
      case h6=>exact (λh i=>G2.offX i)
      case h7=>simp;exact (mK (.i (.e xC xL) (.i (.l xB (.c 31)) (.l (.n xA xB) xC))) [_,_,_]) hz U7
      case h8=>exact (λz z=>rfl)
      case h9=>kernel_rfl
      case h10=>trivial
      case h11=>rfl
      case h12=>decide+kernel
      case h13=>
       rw [Ba]
       have:PV.list ((dF Vb cur).map λq=>PV.int (q.1+q.2))=il (r9 rows last n (k'+1) (rR rows last n)):=by
        rw [UY];unfold il AO ss;rw [aB];rfl
       rw [this]
       exact qT (by walk_at "has")
      case h14=>rfl
      case h15=>rfl
      case h16=>rfl
      case h17=>intro _;rfl
    ·rw [be]
     have e:=yM rows last n
     rw [<-e]
     exact qT (by walk_at "has")
  ·rw [be]
   have W4:(nq rows last).getLast? =aa ((nq rows last).getLast?.getD 0):=by
    cases e:(nq rows last).getLast? with
    |none=>rw [j4] at e;rw [e] at hL1;simp at hL1
    |some x=>rfl
   have Wi:=AQ rows last rows.length
   have hP:zH rows=((nq rows last).getLast?.getD 0::rR rows last rows.length).map λx=>x.fmod 128:=by
    unfold zH;rw [show rows.length - 1=last by exact (mK (.i (.e xA (.a xB xI)) (.e (.s xA xI) xB)) [_,_]) Uz]
   rw [hP]
   generalize (nq rows last).getLast?.getD 0=y0 at W4 ⊢
   generalize rR rows last rows.length=Vb at Wi ⊢
   have E: ∀{φ:Fs} {e:Expr},Ev mJ w φ e (.list (((y0::Vb).filter λz=>ai).map λq=>PV.int (q.fmod 128)))->Ev mJ w φ e (il ((y0::Vb).map λx=>x.fmod 128)):=λh=>mW h (by rw [Ba];unfold il ss;rw [aB];rfl)
   refine nt (E ?_)
   refine pQ (l:=y0::Vb) (V:=PV.int) (bs:=λq=>[("x",.int q)]) (cl:=[]) [] (λz=>ai) (λq=>.int (q.fmod 128)) ?h1 ?h2 ?h3 ?h4 ?h5 ?h6 ?h7 ?h8 ?h9 ?h10 ?h11 ?h12
   case h1=>
    refine qJ (ps:=ss (y0::Vb)) ?_ hh (.inl ⟨_,_,rfl⟩) (λz h=>nomatch h)
    refine mQ (p:=.list [.int y0]) (q:=il Vb) (qo (ps:=[.int y0]) (mM (nA (p:=il (nq rows last)) (q:=.int (-1)) (nA (p:=.list (rows.map il)) (q:=.int last) ?_ ?_ (ni (by exact mK (.L xJ (.k xA)) [_]) (by rw [ca];exact xX (by exact (mK (.i (.e xB (.a xA xI)) (.b xA xB)) [_,_]) Uz)) (by exact (mK (.i (.l xB xK) (.i (.e xB (.a xA xI)) (.B (.k xA) xS))) [_,_]) h4 Uz))) (r7 mT oU) (E5 (by unfold ss;rw [gB,W4];rfl))) mP) (by simp;exact (mK (.i (.e xA xL) (.l xI xA)) [_]) hz)) ?_ (pV (by rw [pg];simp;exact (mK (.i (.e xB xL) (.i (.l xC xN) (.i (.l xA (.s xC xI)) (.l (.a xI xA) xB)))) [_,_,_]) hz hL5 Wi))
    ·walk_at "ev"
    ·walk_at "ev"
    ·walk_at "ev"
   case h2=>exact nR
   case h3=>exact (λq C g Ug z=>nZ)
   case h4=>exact (λq C g Ug z z z=>ot)
   case h5=>
    refine (λq C g Ug z z z z=>mQ (p:=.int q) (q:=.int 128) ?_ mT (oA (by decide)))
    walk_at "ev"
   case h6=>simp;exact (mK (.i (.e xB xL) (.i (.l xC xN) (.i (.l xA (.s xC xI)) (.l (.a xA xI) xB)))) [_,_,_]) hz hL5 Wi
   case h7=>exact (λz z=>rfl)
   case h8=>rfl
   case h9=>trivial
   case h10=>rfl
   case h11=>decide+kernel
   case h12=>intro _;rfl
end
end
section
open PySem.Calls PyProof.Rows
structure pK (prog:aG) (w:au) (I:aW->Prop) (env:Env) (A:aX) (b:List eh) (J:gV->aW->Prop):Prop where
 run: ∀s:aq,I s.heap->0<s.toks->aC (aI prog w) A (iB b env) (λfl s'=>nK s s'/\J fl s'.heap) (λz z=>False) s
structure Et (prog:aG) (w:au) (φ:Fs) (e:Expr) (P:PV->Prop):Prop where
 run: ∀s:aq,φ.I s.heap->0<s.toks->aC (aI prog w) φ.A (bJ e φ.env) (λv s'=>bB s s'/\ ∃p,P p/\mV φ.X s'.heap p v) (λz z=>False) s
structure Lx (prog:aG) (w:au) (A:aX) (X:List aF) (I:aW->Prop) (f:ay) (ps:List PV) (P:PV->Prop):Prop where
 run: ∀(s:aq) (vs:List ay),I s.heap->0<s.toks->oj X s.heap->mR X s.heap ps vs->aC (aI prog w) A (ft f vs) (λv s'=>bB s s'/\ ∃p,P p/\mV X s'.heap p v) (λz z=>False) s
section
variable {prog:aG} {w:au} {c:Sc} {σ:m7} {Λ:List (aF×List PV)} {I I':aW->Prop} {env:Env} {A:aX} {J J':gV->aW->Prop}
theorem pK.of (h:mZ prog w env A I b J):pK prog w I env A b J:=.mk λs i z=>h.run s i
theorem CZ (h:pK prog w I env A b (λfl g=>match fl with|.next=>I' g|f=>J f g)) (hc:pK prog w I' env A d J):pK prog w I env A (b++d) J:=.mk λs i t0 Γ p hΓ=>by
 refine Ff b p s (cg _ Γ _ (λfl p' s' Ul=> ?_) (λz z z e=>e) _ _ (CE _ _ p s (h.run s i t0 Γ p hΓ)))
 refine rW Ul λk e j=> ?_
 cases fl with
 |next=>exact cg _ Γ _ (λfl z VC ⟨e',j'⟩=>⟨e.trans e',j'⟩) (λz z z e=>e) _ _ (hc.run s' j (bg t0 k) Γ p' hΓ)
 |brk=>exact ⟨e,j⟩
 |cont=>exact ⟨e,j⟩
 |ret v=>exact ⟨e,j⟩
theorem MV (h:mZ prog w env A I b (λfl g=>match fl with|.next=>I' g|f=>J f g)) (hc:pK prog w I' env A d J):pK prog w I env A (b++d) J:=CZ (.of h) hc
theorem Of {ι:Type} {K:ι->aW->Prop} (h: ∀v,pK prog w (K v) env A b J):pK prog w (λg=> ∃v,K v g) env A b J:=.mk λs uu t0=>eE uu λv i=>(h v).run s i t0
theorem NN (h:Ev prog w φ e p) (hp:P p):Et prog w φ e P:=.mk λs i z=>ab (h.run s i) (λv s' uu=>eA uu λk r=>⟨k,p,hp,r⟩) λz z e=>e
theorem J4 {P:PV->Prop} (hl:Ev prog w φ l p) (hr:Ev prog w φ r q)
  (ho: ∀(s:aq) (x y:ay),0<s.toks->mV φ.X s.heap p x->mV φ.X s.heap q y->aC (aI prog w) φ.A (cf op x y) (λv s'=>bB s s'/\ ∃r,P r/\mV φ.X s'.heap r v) (λz z=>False) s):
  Et prog w φ (.BinOp l op r pos) P:=.mk λs i t0=>
 j8 (qm (ab (hl.run s i) (λx Ua uu tk1=>eA uu λUc Uf=>qm (ab (hr.run Ua (φ.mono' i Uc)) (λy Ud uu tk2=>eA uu λUe Ur=>
  ab (ho Ud x y (bg t0 (ch tk1 tk2)) (Uf.keep (mN Ue)) Ur) (λv Uk uu=>eA uu λUm Ut=>⟨mO Uc (mO Ue Um),Ut⟩) λz z e=>e) λz z e=>e)) λz z e=>e))
theorem Qs {P P':PV->Prop} (hv:Et prog w φ value P) (hs:Ev prog w φ UG q) (ho: ∀p,P p-> ∃r,P' r/\og prog w φ.A φ.X (dS value UG) p q r):Et prog w φ (.Subscript value UG pos) P':=.mk λs i t0=>
 Subscript_ (ab (hv.run s i t0) (λx Ua uu=>o8 uu λUc p hp Uf=>ab (hs.run Ua (φ.mono' i Uc)) (λy Ud uu=>eA uu λUe Ur=>by
  refine mX (ho p hp) λr hr op=> ?_
  exact ab (op Ud x y ((φ.live _ i).keep (mN (mO Uc Ue))) (Uf.keep (mN Ue)) Ur) (λv Uk uu=>eA uu λUm Ut=>⟨mO Uc (mO Ue Um),r,hr,Ut⟩) λz z e=>e) λz z e=>e) λz z e=>e)
theorem uY (he:Et prog w (fs c σ Λ) e P) (hb: ∀p,P p->pK prog w (In c ((x,p)::σ) Λ) c.env c.A b J)
  (hx:autoParam (sG c x) X2) (hk:autoParam (c.env.scope.kind= .function) X1) (hs:autoParam (cK e (aa (.Name x px)) pos.line c.env=bG false) X1):
  pK prog w (In c σ Λ) c.env c.A (.Assign [.Name x px] e pos::b) J:=by
 have h1:pK prog w (In c σ Λ) c.env c.A [.Assign [.Name x px] e pos] (λfl g=>match fl with|.next=> ∃p:{p // P p},In c ((x,p.1)::σ) Λ g|f=>J f g):=.mk λs i t0=>by
  refine wpAny_execs_cons (ab (Q:=λfl s'=>fl= .next/\nK s s'/\ ∃p:{p // P p},In c ((x,p.1)::σ) Λ s'.heap) ?_ (λfl s' uu=>rW uu λe a b=>by subst e;exact iG ⟨a,b⟩) λz z e=>e)
  exact cO (ab (he.run s i t0) (λv Ua uu=>o8 uu λUc p hp Uf=>
   ab (t5 (i.mono (mN Uc)) hx Uf hk) (λz Ud uu=>eA uu λUO Ui=>⟨rfl,(nK.of Uc).trans UO,⟨p,hp⟩,Ui⟩) λz z e=>e) λz z e=>e) hs
 exact CZ (b:=[_]) h1 (Of λp=>hb p.1 p.2)
end
section
variable {prog:aG} {w:au} {c:Sc} {σ:m7} {Λ:List (aF×List PV)}
theorem Md (he:Et prog w (fs c σ Λ) e P) (hg:m4 g c.g:=by exact m4.rfl) (hY: ∀a∈Y,a∈c.X:=by exact λa h=>aM _ h):
  pK prog w (In c σ Λ) c.env c.A (.Return (aa e) pos::b) (λfl h=> ∃p,P p/\uD g Y p fl h):=.mk λs i t0=>by
 rw [ci]
 refine ae (jM (ab (he.run s i t0) (λv Ua uu=>o8 uu λUc p hp Uf=> ?_) λz z e=>e))
 exact aj ⟨nK.of Uc,p,hp,hg.trans (i.mono (mN Uc)).keep,Uf.sub λb hb z=>hY b hb⟩
structure Dd (prog:aG) (w:au) (φ:Fs) (e:Expr) (b:Bool):Prop where
 run: ∀s:aq,φ.I s.heap->0<s.toks->aC (aI prog w) φ.A (isTrue e φ.env (bJ e φ.env)) (λc s'=>bB s s'/\c=b) (λz z=>False) s
theorem Hi (ht:Dd prog w (fs c σ Λ) t d)
  (hb:d=ai->pK prog w (In c σ Λ) c.env c.A (b++rest) J) (ho:d=false->pK prog w (In c σ Λ) c.env c.A (o++rest) J):
  pK prog w (In c σ Λ) c.env c.A (.If t b o pos::rest) J:=.mk λs i t0 Γ p hΓ=>by
 rw [ci,di,exec_If]
 simp only [di,ja]
 refine cg _ Γ _ (λe UX Ud ⟨tk,k,q⟩=> ?_) (λz z z e=>e) _ _ (CE _ _ _ _ (ht.run s i t0 Γ _ hΓ))
 subst q
 have t2:=bg t0 tk
 cases e with
 |true=>exact uL b UX Ud (cg _ Γ _ (λfl z Uk ⟨e,j⟩=>⟨(nK.of k).trans e,j⟩) (λz z z e=>e) _ _ ((hb rfl).run Ud (i.mono (mN k)) t2 Γ UX hΓ))
 |false=>exact uL o UX Ud (cg _ Γ _ (λfl z Uk ⟨e,j⟩=>⟨(nK.of k).trans e,j⟩) (λz z z e=>e) _ _ ((ho rfl).run Ud (i.mono (mN k)) t2 Γ UX hΓ))
theorem NZ {id:Str} (hf:Ev prog w (fs c σ Λ) (.Name id np) (.raw f)) (ha:tS prog w (fs c σ Λ) pos (e::es) ps)
  (hk: ∀s:aq,In c σ Λ s.heap->s8 c.A prog w f s) (hc:Lx prog w c.A c.X (In c σ Λ) f ps P)
  (he:autoParam (aE (e::es) c.env=(false,bJ e c.env)::aE es c.env) X1):Et prog w (fs c σ Λ) (.Call (.Name id np) (e::es) [] pos) P:=.mk λs i t0=>by
 refine cm (qm (ab (hf.run s i) (λv Ua uu tk1=>eA uu λUc Uf=> ?_) λz z e=>e))
 subst Uf
 refine nQ (qv (qm (ab (ha.run Ua (i.mono (mN Uc))) (λvs Ud uu tk2=>eA uu λUe Ur=> ?_) λz z e=>e)) he)
 have Ui:=i.mono (mN (mO Uc Ue))
 exact ⟨hk _ Ui,ab (hc.run Ud vs Ui (bg t0 (ch tk1 tk2)) Ui.liveAll Ur) (λz z uu=>eA uu λUm Ut=>⟨mO Uc (mO Ue Um),Ut⟩) λz z e=>e⟩
theorem M3 {A:aX} {I:aW->Prop} (ns:List Str) {P:PV->Prop}
  (hd: ∀h,I h->xx h a fd body) (UR:A.depth<dC)
  (Uv: ∀(s:aq) (vs:List ay),I s.heap->mR X s.heap ps vs->aC (aI prog w) A.in1 (ey fd ⟨vs,[]⟩) (λUB Ua=>bB s Ua/\ ∃us,UB=ns.zip us/\mR X Ua.heap qs us) (λz z=>False) s)
  (F:AV fd ns)
  (h: ∀g L,I g->oj X g->pK prog w (In (m5 fd a A X [] g L) (qr ns qs) []) (bf fd L a) (A.deeper (bf fd L a)) body (λfl h=> ∃p,P p/\uD g X p fl h)):Lx prog w A X I (.ref a) ps P:=.mk λs vs i t0 lx r=>by
 refine eo (yz (M:=[]) (ns:=ns) (qs:=qs) (Λ:=[]) (hd _ i) UR lx (λz h=>nomatch h) (λz h=>nomatch h) ?_ (λz h=>nomatch h) F λL Ud k tk z Ui=> ?_)
 ·exact ab (Uv s vs i r) (λz z h=>h) λz z e=>e.elim
 ·refine ab ((h s.heap L i lx).run Ud Ui (bg t0 tk)) (λfl s' ⟨⟨h',tk',e⟩,p,hp,kk,rr⟩=> ?_) λz z e=>e.elim
  subst e
  refine o6 k ?_;clear k;intro UE Vz Ub Ue;obtain rfl:=Ub
  exact ⟨⟨h',tk',rfl,kk⟩,p,hp,rr⟩
end
def Fl (f:Fx) (v:ay):Prop:= ∃x t,v= .float x t/\FR f x/\t≠0
theorem Fl.rep (h:Fl f v) (g:aW):mV X g (.fx f) v:=by
 refine nu h ?_;clear h;intro x t Ub r _;obtain rfl:=Ub
 exact ⟨x,t,rfl,r⟩
section
variable {prog:aG} {w:au} {c:Sc} {σ:m7} {Λ:List (aF×List PV)} {I:aW->Prop} {A:aX} {X:List aF}
theorem EG (t0:0<s.toks) (h:FR f x):bB s {s with toks:=s.toks+1}/\ ∃p,(∃u,p= .raw u/\Fl f u)/\mV X ({s with toks:=s.toks+1}:aq).heap p (.float x s.toks):=
 ⟨pt _ _,_,⟨_,rfl,x,s.toks,rfl,h,Nat.pos_iff_ne_zero.mp t0⟩,pi⟩
theorem Io (e:Bd a b=aa r) (s:aq) (x y:ay) (t0:0<s.toks) (rp:mV X s.heap (.int a) x) (rq:mV X s.heap (.int b) y):
  aC (aI prog w) A (cf .Div x y) (λv s'=>bB s s'/\ ∃p,(∃u,p= .raw u/\Fl r u)/\mV X s'.heap p v) (λz z=>False) s:=by
 refine eA (HE e) λhb F=> ?_
 refine eE rp ?_;clear rp;intro t Ub;obtain rfl:=Ub;refine eE rq ?_;clear rq;intro u Ub;obtain rfl:=Ub
 exact jQ (by simpa using hb) (zL F) (EG t0 F)
theorem Ik (e:y4 f g=aa r) (s:aq) (x y:ay) (t0:0<s.toks) (rp:mV X s.heap (.fx f) x) (rq:mV X s.heap (.fx g) y):
  aC (aI prog w) A (cf .Div x y) (λv s'=>bB s s'/\ ∃p,(∃u,p= .raw u/\Fl r u)/\mV X s'.heap p v) (λj j=>False) s:=by
 refine o6 rp ?_;clear rp;intro x t Ub Fx;obtain rfl:=Ub;refine o6 rq ?_;clear rq;intro y u Ub Fy;obtain rfl:=Ub
 refine eA (zS Fx Fy e) λFr z=> ?_
 exact jA (by simp [z]) (EG t0 Fr)
theorem ql (he:Ev prog w (fs c σ Λ) e p) (hb:pK prog w (In c ((x,p)::σ) Λ) c.env c.A b J)
  (hx:autoParam (sG c x) X2) (hk:autoParam (c.env.scope.kind= .function) X1) (hs:autoParam (cK e (aa (.Name x px)) pos.line c.env=bG false) X1):
  pK prog w (In c σ Λ) c.env c.A (.Assign [.Name x px] e pos::b) J:=uY (P:=λq=>q=p) (NN he rfl) (λq e=>e▸hb) hx hk hs
theorem Dd.of (h:Tr prog w φ e b):Dd prog w φ e b:=.mk λs i z=>h.run s i
def zI (prog:aG) (w:au) (n:Nat) (a:aF) (I₀:aW->Prop) (ps:List PV) (P:PV->Prop):Prop:=
 ∀(A:aX) (X:List aF) (I:aW->Prop),pG n A->(∀h,I h->ox w.params h)->(∀h,I h->I₀ h)->sY w.params X->Lx prog w A X I (.ref a) ps P
theorem yO (ns:List Str) {I₀:aW->Prop} {ps:List PV} {P:PV->Prop} (T:qW w.params a fd body)
  (Uv: ∀vs:List ay,vs.length=ps.length->ey fd ⟨vs,[]⟩=bG (ns.zip vs))
  (h: ∀A X g L,oj X g->I₀ g->Gd w n (m5 fd a A X [] g L)->pK prog w (In (m5 fd a A X [] g L) (qr ns ps) []) (bf fd L a) (A.deeper (bf fd L a)) body (λfl h=> ∃p,P p/\uD g X p fl h)) (F:autoParam (KF fd ns=ai) XX):zI prog w (n+1) a I₀ ps P:=by
 have F:=wh F
 intro A X I hr hI hI0 hO
 refine M3 ns (λh i=>(hI h i).defAt T) hr.lim (λs vs i r=>xw r Uv) F λg L i lx=> ?_
 exact h A X g L lx (hI0 g i) ⟨hI g i,hO,hr.deeper _,F.kind,F.gl,F.bl⟩
theorem Jk (G:Gd w n c) {id:Str} (hv:l8 (KB w.params) bn id=aa (aa (.ref a)))
  (ho:(KB w.params).lookup a=aa ⟨oc,od,.func fd,sl⟩) (ha:tS prog w (fs c σ Λ) pos (e::es) ps) (hc:zI prog w n a I₀ ps P) (h0:I₀ c.g) (hI₀: ∀h h',I₀ h->m4 h h'->I₀ h') (hx:autoParam (c.env.kindOf id=aa .globalImplicit) X1) (hd:autoParam ((id==("__debug__":Str))=false) XX)
  (he:autoParam (aE (e::es) c.env=(false,bJ e c.env)::aE es c.env) X1):Et prog w (fs c σ Λ) (.Call (.Name id np) (e::es) [] pos) P:=.mk λs i t0=>
 (NZ (ul G hv hx hd) ha (λs i=>rE ((G.inBase _ i).frag _ _ ho) rfl) (hc c.A c.X _ G.room G.inBase (λh i=>hI₀ _ _ h0 i.keep) (G.offX i)) he).run s i t0
end
end
section
open PySem.Calls PyProof.Rows PySem.Builtin.Str
section
variable {w:au}
set_option tactic.hygienic true in
theorem Oo (e:qP (.int a) (.int b)=aa s): ∃f,s= .fx f/\Bd a b=aa f:=by
 unfold qP at e
 dsimp only at e
 split at e
 ·exact nE e
 ·rename_i r q;obtain rfl:=am e;exact ⟨r,rfl,q⟩
theorem Ji (hp:p= .int a) (hq:q= .int b) (e:Bd a b=aa r) (s:aq) (x y:ay) (t0:0<s.toks) (rp:mV X s.heap p x) (rq:mV X s.heap q y):
  aC (aI prog w) A (cf .Div x y) (λv s'=>bB s s'/\ ∃p,(∃u,p= .raw u/\Fl r u)/\mV X s'.heap p v) (λz z=>False) s:=by
 subst hp hq;exact Io e s x y t0 rp rq
theorem HV (n1:qw r g) (n2:qw g b) (n3:qw r b) (e:oJ r g b=aa (.tup [hq,sq,mq]))
  (hmx:nJ r g b= .int M) (hrg:n0 (nJ r g b) (qu r g b)=aa (.int R')) (c1:rZ (qu r g b) (nJ r g b)=false):
  zI mJ w 1 125 (λz=>True) [r,g,b] (λq=> ∃u sf,Fl sf u/\sq= .fx sf/\q= .tup [hq,.raw u,mq]):=by
 have i1:=sA n1
 have i2:=sA n2
 have i3:=sA (su n3)
 have im:=Cn i1 i2 i3
 have in_:=Cg i1 i2 i3
 have n4:=su n3
 refine ng e λrange e1 e=>ng (tP c1 e) λs e2 e=>AN e λrc gc bc h a1 a2 a3 h0 h1 R e=> ?_
 cases e
 have Wy:range= .int R':=by rw [hrg] at e1;exact (am e1).symm
 refine mX (Oo (by rw [Wy,hmx] at e2;exact e2)) λsf Ub Wd=> ?_;obtain rfl:=Ub
 refine yO ["r","g","b"] (vJ _) (λvs e=> ?_) (λA X g' L lx z G=> ?_)
 ·refine vA (vx e) λz z z Ub=> ?_;obtain rfl:=Ub;kernel_rfl!
 have hh:(A.deeper (bf xY L 125)).handled=az:=G.room.1
 refine ql (p:=nJ r g b) (oq G (ps:=[r,g,b]) (by kernel_rfl) (by kernel_rfl) (mM ?_ (mM ?_ (mM ?_ mP))) (AF hh n1 n2 n3 n4)) ?_
 ·walk_at "ev"
 ·walk_at "ev"
 ·walk_at "ev"
 refine ql (p:=qu r g b) (oq G (ps:=[r,g,b]) (by kernel_rfl) (by kernel_rfl) (mM ?_ (mM ?_ (mM ?_ mP))) (A2 hh n1 n2 n3 n4)) ?_
 ·walk_at "ev"
 ·walk_at "ev"
 ·walk_at "ev"
 refine ql (p:=range) (mQ (p:=nJ r g b) ?_ ?_ (nY e1)) ?_
 ·walk_at "ev"
 ·walk_at "ev"
 refine ql (p:=nJ r g b) ?_ ?_
 ·walk_at "ev"
 refine Hi (d:=rZ (qu r g b) (nJ r g b)) (.of (m8 (p:=qu r g b) (q:=nJ r g b) ?_ ?_ (tQ in_ im))) (λc2=>by rw [c1] at c2;exact oW c2) (λz=> ?_)
 ·walk_at "ev"
 ·walk_at "ev"
 refine uY (P:=λp=> ∃u,p= .raw u/\Fl sf u) ?he (λq XF=> ?_)
 case he=>
  refine J4 (p:=range) (q:=nJ r g b) ?_ ?_ ?_
  ·walk_at "ev"
  ·walk_at "ev"
  ·exact Ji Wy hmx Wd
 refine mX XF ?_;clear XF;intro u Ub hu;obtain rfl:=Ub
 exact pK.of (tj (E0 i1 i2 im R) (λz i=>i) (λz z r=>⟨_,⟨u,sf,hu,rfl,rfl⟩,r⟩))
end
section
variable {w:au}
theorem vK (r:mV X h (.raw v) u):u=v:=by exact r
theorem C8 (hh:A.handled=az) (hv:Fl f v):pZ prog w A X I (.builtin "max") [.raw v,.raw v,.raw v] (.raw v):=λs vs z z rr=>by
 refine sa (zK rr) λv1 v2 v3 Ub r1 r2 r3=> ?_;obtain rfl:=Ub
 obtain rfl:=vK r1;obtain rfl:=vK r2;obtain rfl:=vK r3
 have n:qw (.fx f) (.fx f):=trivial
 have r:mV X s.heap (.fx f) v3:=hv.rep _
 refine yE hh (sJ n r) (sJ n r) (sJ n r) λh' tk k=>⟨⟨_,_,rfl,k⟩,?_⟩
 have: ∀b:Bool,mV X h' (.raw v3) (cond b (cond b v3 v3) (cond b v3 v3)):=λb=>by cases b<;>exact pi
 exact this _
theorem Da (hh:A.handled=az) (hv:Fl f v):pZ prog w A X I (.builtin "min") [.raw v,.raw v,.raw v] (.raw v):=λs vs z z rr=>by
 refine sa (zK rr) λv1 v2 v3 Ub r1 r2 r3=> ?_;obtain rfl:=Ub
 obtain rfl:=vK r1;obtain rfl:=vK r2;obtain rfl:=vK r3
 have n:qw (.fx f) (.fx f):=trivial
 have r:mV X s.heap (.fx f) v3:=hv.rep _
 refine yL hh (sJ n r) (sJ n r) (sJ n r) λh' tk k=>⟨⟨_,_,rfl,k⟩,?_⟩
 have: ∀b:Bool,mV X h' (.raw v3) (cond b (cond b v3 v3) (cond b v3 v3)):=λb=>by cases b<;>exact pi
 exact this _
theorem JE (hv:Fl f v) (e1:n0 (.fx f) (.fx f)=aa range) (ee:tw f f=ai):rN mJ w 1 125 [.raw v,.raw v,.raw v] (.tup [.fx (fN 0),.fx (fN 0),.raw v]):=by
 refine qL ["r","g","b"] (vJ _) (λvs e=> ?_) (λA X g' L lx G=> ?_)
 ·refine vA (vx e) λz z z Ub=> ?_;obtain rfl:=Ub;kernel_rfl!
 ·have hh:(A.deeper (bf xY L 125)).handled=az:=G.room.1
  refine mS (p:=.raw v) (oq G (ps:=[.raw v,.raw v,.raw v]) (by kernel_rfl) (by kernel_rfl) (mM ?_ (mM ?_ (mM ?_ mP))) (C8 hh hv)) ?_
  ·walk_at "ev"
  ·walk_at "ev"
  ·walk_at "ev"
  refine mS (p:=.raw v) (oq G (ps:=[.raw v,.raw v,.raw v]) (by kernel_rfl) (by kernel_rfl) (mM ?_ (mM ?_ (mM ?_ mP))) (Da hh hv)) ?_
  ·walk_at "ev"
  ·walk_at "ev"
  ·walk_at "ev"
  refine mS (p:=range) (mQ (p:=.fx f) (q:=.fx f) (rh (v:=v) ?_ λg=>hv.rep g) (rh (v:=v) ?_ λg=>hv.rep g) (nY e1)) ?_
  ·walk_at "ev"
  ·walk_at "ev"
  refine mS (p:=.raw v) ?_ ?_
  ·walk_at "ev"
  refine nk (d:=ai) (m8 (p:=.fx f) (q:=.fx f) (rh (v:=v) ?_ λg=>hv.rep g) (rh (v:=v) ?_ λg=>hv.rep g) (ee▸A0)) (λz=> ?_) (λc=>by exact rI c)
  ·walk_at "ev"
  ·walk_at "ev"
  refine nt (oE (ps:=[.fx (fN 0),.fx (fN 0),.raw v]) (mM ?_ (mM ?_ (mM ?_ mP))) (by have:=aw;simp;exact (mK (.i (.e xA xL) (.l xO xA)) [_]) this))<;>walk_at "ev"
theorem I5 (hv:Fl f v) (e0:qK (.fx f) (.fx f)=aa (.fx f2)) (e1:n0 (.fx f) (.fx f)=aa range) (e2:y4 f2 (fN 2)=aa g) (ee:tw f f=ai):
  zI mJ w 1 104 (λz=>True) [.raw v,.raw v,.raw v] (λq=> ∃u,Fl g u/\q= .tup [.fx (fN 0),.raw u,.fx (fN 0)]):=by
 refine yO ["r","g","b"] (DZ _) (λvs e=> ?_) (λA X g' L lx z G=> ?_)
 ·refine vA (vx e) λz z z Ub=> ?_;obtain rfl:=Ub;kernel_rfl!
 ·have hh:(A.deeper (bf IC L 104)).handled=az:=G.room.1
  refine ql (p:=.raw v) (oq G (ps:=[.raw v,.raw v,.raw v]) (by kernel_rfl) (by kernel_rfl) (mM ?_ (mM ?_ (mM ?_ mP))) (C8 hh hv)) ?_
  ·walk_at "ev"
  ·walk_at "ev"
  ·walk_at "ev"
  refine ql (p:=.raw v) (oq G (ps:=[.raw v,.raw v,.raw v]) (by kernel_rfl) (by kernel_rfl) (mM ?_ (mM ?_ (mM ?_ mP))) (Da hh hv)) ?_
  ·walk_at "ev"
  ·walk_at "ev"
  ·walk_at "ev"
  refine ql (p:=.fx f2) (mQ (p:=.fx f) (q:=.fx f) (rh (v:=v) ?_ λg=>hv.rep g) (rh (v:=v) ?_ λg=>hv.rep g) (qI e0)) ?_
  ·walk_at "ev"
  ·walk_at "ev"
  refine ql (p:=range) (mQ (p:=.fx f) (q:=.fx f) (rh (v:=v) ?_ λg=>hv.rep g) (rh (v:=v) ?_ λg=>hv.rep g) (nY e1)) ?_
  ·walk_at "ev"
  ·walk_at "ev"
  refine uY (P:=λp=> ∃u,p= .raw u/\Fl g u) ?he (λq XF=> ?_)
  case he=>
   refine J4 (p:=.fx f2) (q:=.fx (fN 2)) ?_ ?_ ?_
   ·walk_at "ev"
   ·walk_at "ev"
   ·exact Ik e2
  refine mX XF ?_;clear XF;intro u Ub hu;obtain rfl:=Ub
  refine pK.of (tj (J:=uD g' X (.tup [.fx (fN 0),.raw u,.fx (fN 0)])) ?_ (λz i=>i) (λz z r=>⟨_,⟨u,hu,rfl⟩,r⟩))
  refine nk (d:=ai) (m8 (p:=.fx f) (q:=.fx f) (rh (v:=v) ?_ λg=>hv.rep g) (rh (v:=v) ?_ λg=>hv.rep g) (ee▸A0)) (λz=> ?_) (λc=>by exact rI c)
  ·walk_at "ev"
  ·walk_at "ev"
  refine nt (oE (ps:=[.fx (fN 0),.raw u,.fx (fN 0)]) (mM ?_ (mM ?_ (mM ?_ mP))) (by have:=aw;simp;exact (mK (.i (.e xA xL) (.l xO xA)) [_]) this))<;>walk_at "ev"
end
end
section
open PySem.Calls PyProof.Rows PySem.SeqAt
def tg (h:aW):Prop:= ∃m,h.Ns iZ m/\m sharingNotToldKey=az
theorem tg.keep (a:tg h) (k:m4 h h'):tg h':=let ⟨m,n,e⟩:=a;⟨m,n.keeps k,e⟩
section
variable {prog:aG} {w:au} {A:aX} {X:List aF} {s:aq}
theorem BE (S:tg s.heap) {Q:Bool->aq->Prop} (h:Q false s):aC (aI prog w) A (sharingNotTold t) Q E s:=by
 refine mX S λm n e=> ?_
 exact ae (wpAny_nsGet n (by exact e▸(aj h)))
theorem O6 (S:tg s.heap) (hv:Fl f v) (hu:Fl g u) (e:tw f g=ai):EqAt A s v u ai:=λprog w E Q hq=>by
 refine nu hv ?_;clear hv;intro x t Ub fx t0;obtain rfl:=Ub
 refine nu hu ?_;clear hu;intro y t' Ub fy t0';obtain rfl:=Ub
 refine bL ?_
 refine wpAny_ite_split (λhab=>ae (gK (aj hq))) (λj=> ?_)
 have last:aC (aI prog w) A (do let r <-richCompare .Eq (.float x t) (.float y t');truthOfDropped r) Q E s:=
  ae (jZ (fO (by exact (Im fx fy)▸e▸hq)))
 have sm:aC (aI prog w) A (isSame (.float x t) (.float y t')) (λb s'=>s'=s) E s:=by
  show aC _ _ (isSame.created (x==y&& !Float64.isNaN x) t t') _ _ _
  unfold isSame.created
  have z:(t==0||t'==0)=false:=by simp [t0,t0']
  rw [z]
  simp only [a9,if_false,pure_bind]
  have P: ∀b:Bool,aC (aI prog w) A (bG b) (λb s'=>s'=s) E s:=λb=>aj rfl
  by_cases c1:(t==t')=ai
  ·exact (if_pos c1)▸(P _)
  rw [if_neg c1]
  by_cases c2:(!(x==y&& !Float64.isNaN x))=ai
  ·exact (if_pos c2)▸(P _)
  rw [if_neg c2]
  refine ae (BE S ?_)
  simp only [a9,if_false,pure_bind]
  refine ae (BE S ?_)
  simp only [a9,if_false,pure_bind]
  intro Γ p hΓ
  exact rfl
 refine ae (ab sm (λb s' e'=> ?_) λz z e=>e)
 subst e'
 cases b with
 |true=>exact aj hq
 |false=>exact last
end
section
variable {prog:aG} {w:au} {A:aX} {X:List aF} {I:aW->Prop}
def Do (I:aW->Prop) (A:aX) (X:List aF) (p q:PV) (b:Bool):Prop:= ∀(s:aq) (v u:ay),I s.heap->mV X s.heap p v->mV X s.heap q u->EqAt A s v u b/\(v=u->b=ai)
def Em (I:aW->Prop) (A:aX) (X:List aF) (l m:List PV) (b:Bool):Prop:= ∀(s:aq) (vs us:List ay),I s.heap->mR X s.heap l vs->mR X s.heap m us->
 vs.length=us.length/\(∃e:Nat->Bool,(∀j (h1:j<vs.length) (h2:j<us.length),EqAt A s vs[j] us[j] (e j))/\(ag vs.length).all e=b)/\(vs=us->b=ai)
theorem PA:Do I A X (.raw v) (.raw v) ai:=λs x u i r q=>by
 subst r q
 exact ⟨EqAt.same _,λz=>rfl⟩
theorem Bj:Do I A X (.fx f) (.int n) (tw f (xl n)):=λs v u i r q=>by
 refine o6 r ?_;clear r;intro x t Ub fx;obtain rfl:=Ub;obtain ⟨t',rfl⟩:=q
 refine ⟨λprog w E Q hq=> ?_,λh=>nomatch h⟩
 refine bL ?_
 refine wpAny_ite_split (λhab=>absurd (gF hab) nofun) (λz=> ?_)
 exact ae (eq_fi (fO (by rw [zk fx];exact hq)))
theorem A7:Em I A X [] [] ai:=λs vs us i r q=>by
 subst r q
 exact ⟨rfl,⟨λz=>ai,λj h1=>absurd h1 (jO _),rfl⟩,λz=>rfl⟩
theorem sp (h:Do I A X p q a) (hs:Em I A X l m b):Em I A X (p::l) (q::m) (a&&b):=λs vs us i r k=>by
 refine nu r ?_;clear r;intro v WC Ub r1 r2;obtain rfl:=Ub
 refine nu k ?_;clear k;intro u WF Ub k1 k2;obtain rfl:=Ub
 refine eA (h s v u i r1 k1) λh1 h1'=> ?_
 obtain ⟨hn,⟨e,he,hb⟩,hv⟩:=hs s WC WF i r2 k2
 refine ⟨by simp [hn],⟨λj=>match j with|0=>a|j+1=>e j,?_,?_⟩,λhh=> ?_⟩
 ·intro j g1 g2
  cases j with
  |zero=>exact h1
  |succ j=>exact he j (by simpa using g1) (by simpa using g2)
 ·rw [aU,ky,iL,List.all_map,<-hb];rfl
 ·injection hh with e1 e2
  rw [h1' e1,hv e2];rfl
theorem HM (hu:A.units<fw) (h:Em I A.in1 X l m b): ∀(s:aq) (v u:ay),I s.heap->mV X s.heap (.tup l) v->mV X s.heap (.tup m) u->RcAt A s v u b/\(v=u->b=ai):=λs v u i r q=>by
 refine nw r ?_;clear r;intro a vs Ub _ t r;obtain rfl:=Ub
 refine nw q ?_;clear q;intro a' us Ub _ t' q;obtain rfl:=Ub
 obtain ⟨hn,⟨e,he,hb⟩,hv⟩:=h s vs us i r q
 refine ⟨?_,λhh=> ?_⟩
 ·have:=RcAt.tuples (A:=A) (e:=e) t t' hu (λj h1 h2=>by simpa using he j (by simpa using h1) (by simpa using h2))
  rw [<-hb];simpa [hn] using this
 ·cases hh
  exact hv (by simpa using BI t t')
theorem Do.ofTup (hu:A.units<fw) (h:Em I A.in1 X l m b):Do I A X (.tup l) (.tup m) b:=λs v u i r q=>
 by
  obtain ⟨x,y⟩:=HM hu h s v u i r q
  refine o6 r ?_;clear r;intro a vs Ub _;obtain rfl:=Ub
  refine o6 q ?_;clear q;intro a' us Ub _;obtain rfl:=Ub
  exact ⟨ED (λe=>y (by rw [e])) x,y⟩
theorem Q4 (hI: ∀h,I h->tg h) (hv:Fl f v) (hu:Fl g u) (e:tw f g=ai):Do I A X (.raw v) (.raw u) ai:=λs x y i r q=>by
 subst r q
 exact ⟨O6 (hI _ i) hv hu e,λz=>rfl⟩
end
end
section
open PySem.Calls PyProof.Rows
structure NK (prog:aG) (w:au) (φ:Fs) (pos:Pos) (es:List Expr) (P:List PV->Prop):Prop where
 run: ∀s:aq,φ.I s.heap->0<s.toks->aC (aI prog w) φ.A (spliced (fb pos (aE es φ.env))) (λvs s'=>bB s s'/\ ∃ps,P ps/\mR φ.X s'.heap ps vs) (λz z=>False) s
section
variable {prog:aG} {w:au} {φ:Fs}
theorem Qt (h:tS prog w φ pos es ps) (hp:P ps):NK prog w φ pos es P:=.mk λs i z=>ab (h.run s i) (λv s' uu=>eA uu λk r=>⟨k,ps,hp,r⟩) λz z e=>e
theorem Fq (h:Et prog w φ e P) (hs:NK prog w φ pos es P') (hR: ∀p ps,P p->P' ps->R (p::ps))
  (he:autoParam (aE (e::es) φ.env=(false,bJ e φ.env)::aE es φ.env) X1):NK prog w φ pos (e::es) R:=.mk λs i t0=>
 cB (qm (ab (h.run s i t0) (λv Ua uu tk=>o8 uu λUc p hp Uf=>ab (hs.run Ua (φ.mono' i Uc) (bg t0 tk)) (λvs Ud uu=>o8 uu λUe ps WZ Ur=>⟨mO Uc Ue,_,hR p ps hp WZ,mR.cons (Uf.keep (mN Ue)) Ur⟩) λz z e=>e) λz z e=>e)) he
theorem Rb (hs:NK prog w φ pos es P) (hz: ∀ps,P ps->ps.length<=bo/\P' (.tup ps)):Et prog w φ (.Tuple es k pos) P':=.mk λs i t0=>
 wpAny_Tuple (ab (hs.run s i t0) (λvs Ua uu=>o8 uu λUc ps hp Uf=>⟨by exact Uf.len▸((hz ps hp).1),mO Uc (m9 _ _ _),_,(hz ps hp).2,by
  exact ⟨_,vs,rfl,oY (φ.live _ (φ.mono' i Uc)),⟨_,av _ rfl,rfl,_,rfl⟩,Uf.keep (mN (m9 Ua _ Ua.toks))⟩⟩) λz z e=>e)
theorem QS (hl:Et prog w φ l P) (hr:Ev prog w φ r q)
  (ho: ∀p,P p-> ∀(s:aq) (x y:ay),φ.I s.heap->mV φ.X s.heap p x->mV φ.X s.heap q y->aC (aI prog w) φ.A (bP op x y) (λv s'=>bB s s'/\ ∃r,P' r/\mV φ.X s'.heap r v) (λz z=>False) s)
  (hm:autoParam (lE op r=false) XZ):Et prog w φ (.Compare l [op] [r] pos) P':=.mk λs i t0=>
 wpAny_Compare1 (ab (hl.run s i t0) (λa Ua uu=>o8 uu λUc p hp Uf=>ab (hr.run Ua (φ.mono' i Uc)) (λb Ud uu=>eA uu λUe Ur=>
  ab (ho p hp Ud a b (φ.mono' i (mO Uc Ue)) (Uf.keep (mN Ue)) Ur) (λz z uu=>eA uu λUm Ut=>⟨mO Uc (mO Ue Um),Ut⟩) λz z e=>e) λz z e=>e) λz z e=>e) hm
theorem O2 (hx:Ev prog w φ x p) (t:tY prog w φ.A φ.X p ai) (hy:Et prog w φ y P):Et prog w φ (.BoolOp .And [x,y] pos) P:=.mk λs i t0=>
 wpAny_And2 (qm (ab (hx.run s i) (λv Ua uu tk1=>eA uu λUc Uf=>qm (ab (t Ua v Uf) (λc Ud uu tk2=>eA uu λUe e=>by
  subst e
  exact ab (hy.run Ud (φ.mono' i (mO Uc Ue)) (bg t0 (ch tk1 tk2))) (λz z uu=>eA uu λUm Ut=>⟨mO Uc (mO Ue Um),Ut⟩) λz z e=>e) λz z e=>e)) λz z e=>e))
end
end
section
open PySem.Calls PyProof.Rows PySem.Builtin.Str
section
variable {w:au}
theorem z0:rZ (.int 0) (.fx (fN 0))=ai:=by decide+kernel
theorem Tv (h l:PV):sy h (.int 0) l=aa (.tup [l,l,l]):=by unfold sy;rw [z0];rfl
theorem Tx (h l:PV):wj h l (.int 0)=aa (.tup [l,l,l]):=by unfold wj;rw [z0];rfl
theorem z1:tw (fN 0) (xl 0)=ai:=by decide+kernel
theorem II (hv:Fl f v) (e0:qK (.fx f) (.fx f)=aa (.fx f2)) (e1:n0 (.fx f) (.fx f)=aa range) (e2:y4 f2 (fN 2)=aa f) (ee:tw f f=ai):
  zI mJ w 3 316 tg [.raw v,UZ] (λq=>q= .bool ai):=by
 refine yO ["value","way"] (NP _) (λvs e=> ?_) (λA X g' L lx hS G=> ?_)
 ·refine rU (FK e) λz z Ub=> ?_;obtain rfl:=Ub;kernel_rfl!
 ·have hh:(A.deeper (bf wT L 316)).handled=az:=G.room.1
  have hz:=aw
  have hu:(A.deeper (bf wT L 316)).units+64<fw:=by have:=G.room.2.2;simp only [m5] at this;exact (mK (.i (.b (.a (.a xA (.m 10 xM)) xP) xB) (.b (.a xA (.c 64)) xB)) [_,_]) this
  have hu0:(A.deeper (bf wT L 316)).units<fw:=by exact (mK (.i (.b (.a xA (.c 64)) xB) (.b xA xB)) [_,_]) hu
  have hu1:(A.deeper (bf wT L 316)).in1.units<fw:=by exact (mK (.i (.b (.a xA (.c 64)) xB) (.b (.a xA xI) xB)) [_,_]) hu
  have G1:Gd w 1 (m5 wT 316 A X [] g' L):=⟨G.base,G.off,G.room.less (by exact mK (.l xI xM) [] []),rfl,rfl,rfl⟩
  have hI: ∀h,(fs (m5 wT 316 A X [] g' L) [("told",.list [.tup [.raw v,.raw v,.raw v],.tup [.raw v,.raw v,.raw v]]),("grey",.tup [.raw v,.raw v,.raw v]),("value",.raw v),("way",UZ)] []).I h->tg h:=λh i=>hS.keep (In.keep i)
  refine ql (p:=.tup [.raw v,.raw v,.raw v]) (oE (ps:=[.raw v,.raw v,.raw v]) (mM ?_ (mM ?_ (mM ?_ mP))) (by simp;exact (mK (.i (.e xA xL) (.l xO xA)) [_]) hz)) ?_
  ·walk_at "ev"
  ·walk_at "ev"
  ·walk_at "ev"
  refine ql (p:=.list [.tup [.raw v,.raw v,.raw v],.tup [.raw v,.raw v,.raw v]]) (qo (ps:=[.tup [.raw v,.raw v,.raw v],.tup [.raw v,.raw v,.raw v]]) (mM (oP G (ps:=[UZ,.int 0,.raw v]) (by kernel_rfl) (DQ _).e (mM ?_ (mM ?_ (mM ?_ mP))) (AT rfl (Tv _ _))) (mM (oP G (ps:=[UZ,.raw v,.int 0]) (by kernel_rfl) (Iq _).e (mM ?_ (mM ?_ (mM ?_ mP))) (Fw rfl (Tx _ _))) mP)) (by simp;exact (mK (.i (.e xA xL) (.l xM xA)) [_]) hz)) ?_
  ·walk_at "ev"
  ·walk_at "ev"
  ·walk_at "ev"
  ·walk_at "ev"
  ·walk_at "ev"
  ·walk_at "ev"
  refine Md ?_
  refine O2 (p:=.bool ai) ?h1 qA ?h2
  case h1=>
   refine vm (p:=.list [.tup [.raw v,.raw v,.raw v],.tup [.raw v,.raw v,.raw v]]) (q:=.list [.tup [.raw v,.raw v,.raw v],.tup [.raw v,.raw v,.raw v]]) ?_ (qo (mM ?_ (mM ?_ mP)) (by simp;exact (mK (.i (.e xA xL) (.l xM xA)) [_]) hz)) (Gi hu0 (sv (G4.ofTup hu1 (sv vM (sv vM (sv vM A6)))) (sv (G4.ofTup hu1 (sv vM (sv vM (sv vM A6)))) A6)))
   ·walk_at "ev"
   ·walk_at "ev"
   ·walk_at "ev"
  case h2=>
   refine QS (P:=λp=> ∃u,Fl f u/\p= .tup [.tup [.fx (fN 0),.fx (fN 0),.raw v],.tup [.fx (fN 0),.raw u,.fx (fN 0)]]) (q:=.tup [.tup [.int 0,.int 0,.raw v],.tup [.int 0,.raw v,.int 0]]) ?l ?r ?o
   case l=>
    refine Rb (P:=λps=> ∃u,Fl f u/\ps=[.tup [.fx (fN 0),.fx (fN 0),.raw v],.tup [.fx (fN 0),.raw u,.fx (fN 0)]]) ?a (λps hp=> ?b)
    case a=>
     refine Fq (P:=λp=>p= .tup [.fx (fN 0),.fx (fN 0),.raw v]) (P':=λps=> ∃u,Fl f u/\ps=[.tup [.fx (fN 0),.raw u,.fx (fN 0)]]) (NN (oP G1 (ps:=[.raw v,.raw v,.raw v]) (by kernel_rfl) (vJ _).e (mM ?_ (mM ?_ (mM ?_ mP))) (JE hv e1 ee)) rfl) ?t (λp ps hp WZ=>by refine mX WZ ?_;clear WZ;intro u hu Ub;obtain rfl:=Ub;exact ⟨u,hu,by rw [hp]⟩)
     ·walk_at "ev"
     ·walk_at "ev"
     ·walk_at "ev"
     case t=>
      refine Fq (P:=λq=> ∃u,Fl f u/\q= .tup [.fx (fN 0),.raw u,.fx (fN 0)]) (P':=λps=>ps=[]) (Jk G1 (I₀:=λz=>True) (ps:=[.raw v,.raw v,.raw v]) (by kernel_rfl) (DZ _).e (mM ?_ (mM ?_ (mM ?_ mP))) (I5 hv e0 e1 e2 ee) trivial (λz z z z=>trivial)) (Qt mP rfl) (λp ps hp WZ=>by refine mX hp ?_;clear hp;intro u hu Ub;obtain rfl:=Ub;exact ⟨u,hu,by rw [WZ]⟩)
      ·walk_at "ev"
      ·walk_at "ev"
      ·walk_at "ev"
    case b=>
     refine mX hp ?_;clear hp;intro u hu Ub;obtain rfl:=Ub
     exact ⟨by simp;exact (mK (.i (.e xA xL) (.l xM xA)) [_]) hz,u,hu,rfl⟩
   case r=>
    refine oE (mM (oE (mM ?_ (mM ?_ (mM ?_ mP))) (by simp;exact (mK (.i (.e xA xL) (.l xO xA)) [_]) hz)) (mM (oE (mM ?_ (mM ?_ (mM ?_ mP))) (by simp;exact (mK (.i (.e xA xL) (.l xO xA)) [_]) hz)) mP)) (by simp;exact (mK (.i (.e xA xL) (.l xM xA)) [_]) hz)
    ·walk_at "ev"
    ·walk_at "ev"
    ·walk_at "ev"
    ·walk_at "ev"
    ·walk_at "ev"
    ·walk_at "ev"
   case o=>
    intro p hp s x y i rp rq
    refine mX hp ?_;clear hp;intro u hu' Ub;obtain rfl:=Ub
    have E:=HM (I:=tg) (X:=(m5 wT 316 A X [] g' L).X) hu0 (sp (Do.ofTup hu1 (sp (Bj (f:=fN 0) (n:=0)) (sp (Bj (f:=fN 0) (n:=0)) (sp (PA (v:=v)) A7)))) (sp (Do.ofTup hu1 (sp (Bj (f:=fN 0) (n:=0)) (sp (Q4 (λz h=>h) hu' hv ee) (sp (Bj (f:=fN 0) (n:=0)) A7)))) A7))
    have S:tg s.heap:=hS.keep (In.keep i)
    rw [z1] at E
    exact (E s x y S rp rq).1 mJ w _ _ ⟨mU _,.bool ai,rfl,by rfl⟩
end
end
section
open PySem.Calls PyProof.Rows
section
variable {prog:aG} {w:au} {φ:Fs}
theorem O0 (h:Dd prog w φ x b):Dd prog w φ (.UnaryOp .Not x pos) (!b):=.mk λs i t0=>
 wpAny_isTrue_Not (ab (h.run s i t0) (λc s' uu=>eA uu λk e=>⟨k,by rw [e]⟩) λz z e=>e)
theorem OD (h:Et prog w φ e (λq=>q=p)) (t:tY prog w φ.A φ.X p b)
  (he:autoParam (isTrue e φ.env (bJ e φ.env)=(do let v <-bJ e φ.env;iv e.pos;gW [v] (truthy v))) X1):Dd prog w φ e b:=.mk λs i t0=>
 jF (ab (h.run s i t0) (λv Ua uu=>o8 uu λUc q hq Uf=>by
  subst hq
  exact ab (t Ua v Uf) (λc Ud uu=>eA uu λUe e=>⟨mO Uc Ue,e⟩) λz z e=>e) λz z e=>e) he
theorem PI (hx:Tr prog w φ x false) (hy:Dd prog w φ y b):Dd prog w φ (.BoolOp .Or [x,y] pos) b:=.mk λs i t0=>
 wpAny_isTrue_BoolOp (iP (qm (ab (hx.run s i) (λc Ua uu tk=>eA uu λk e=>by
  subst e
  exact iP (ab (hy.run Ua (φ.mono' i k) (bg t0 tk)) (λc Ud uu=>eA uu λk' e'=>by
   subst e'
   cases c with
   |true=>exact ⟨mO k k',rfl⟩
   |false=>exact wpAny_allTrue_Or_nil ⟨mO k k',rfl⟩) λz z e=>e)) λz z e=>e)))
end
section
variable {w:au} {c:Sc} {σ:m7} {Λ:List (aF×List PV)}
end
end
section
open PySem.Calls PyProof.Rows PySem.Builtin.Str
noncomputable def pE (p:Nat):Fx:=⟨false,de p (iD 2 1067)⟩
noncomputable def ID (x:Option PV) (f:Fx):Bool:=match x with
 |some (.fx g)=>cond g.s false (bN g.m f.m)
 |_=>false
def PZ (p:Nat):Bool:=ID (vz (ff p)) (pE p)
set_option tactic.hygienic true in
theorem Ho (h:ID x (pE p)=ai):x=aa (.fx (pE p)):=by
 unfold ID at h
 split at h
 ·rename_i g
  obtain ⟨s,m⟩:=g
  cases s with
  |true=>exact oW h
  |false=>
   have:=bO h
   rw [show m=(pE p).m from this];rfl
 ·exact oW h
theorem O8:(ag 128).all PZ=ai:=by decide+kernel
theorem Ed {p:Nat} (h:p<128):vz (p:Int)=aa (.fx (pE p)):=Ho (br.mp O8 p (aL.mpr h))
def Ki (n m:Nat):Bool:=ID (qK (.fx (pE n)) (.fx (pE m))) (pE (n+m))
noncomputable def nH (k:Nat):Fx:=⟨false,de k (iD 2 1072)⟩
noncomputable def w6 (a b:Fx):Bool:=cond a.s false (cond b.s false (bN a.m b.m))
def H6 (s v l d:Fx) (p:Nat):Bool:=match (sy (.fx (pE p)) (.fx s) (.fx v)).bind qy with
 |some (r,g,b)=>(match (oJ (.fx r) (.fx g) (.fx b)).bind qy with
   |some (x,y,z)=>w6 x (pE p)&&w6 y s&&w6 z v
   |none=>false)&&(match (uM (.fx r) (.fx g) (.fx b)).bind qy with
   |some (x,y,z)=>w6 x (pE p)&&w6 y l&&w6 z d
   |none=>false)
 |none=>false
def IN (s v:Fx):Fx×Fx:=match (sy (.fx (pE 0)) (.fx s) (.fx v)).bind qy with
 |some (r,g,b)=>(match (uM (.fx r) (.fx g) (.fx b)).bind qy with
   |some (_,y,z)=>(y,z)
   |none=>(⟨false,0⟩,⟨false,0⟩))
 |none=>(⟨false,0⟩,⟨false,0⟩)
def Lh (s v:Fx):Bool:=match IN s v with
 |(l,d)=>(ag 128).all (H6 s v l d)
noncomputable def xn:List (Nat×Nat):=[(1,4),(2,4),(3,3),(4,3),(1,2),(2,2),(3,1),(4,1)]
theorem Mq:xn.all (λq=>Lh (nH q.1) (nH q.2))=ai:=by decide+kernel
theorem Jd:(ag 128).all (λn=>(ag 128).all (Ki n))=ai:=by decide+kernel
def IK (s v:Fx) (m:Nat):Bool:=match (sy (.fx (pE (m+128))) (.fx s) (.fx v)).bind qy with
 |some (r,g,b)=>(match (oJ (.fx r) (.fx g) (.fx b)).bind qy with
   |some (x,y,z)=>w6 x (pE m)&&w6 y s&&w6 z v
   |none=>false)
 |none=>false
noncomputable def HX (x:Option Int) (n:Nat):Bool:=match x with
 |some (.ofNat k)=>bN k n
 |_=>false
noncomputable def GK (x y:Option Int):Bool:=match x,y with
 |some (.ofNat k),aa (.ofNat n)=>bN k n
 |_,_=>false
def IY (s v l d:Fx) (n:Nat):Bool:=match (wj (.fx (pE n)) (.fx l) (.fx d)).bind qy with
 |some (r,g,b)=>(match (oJ (.fx r) (.fx g) (.fx b)).bind qy with
   |some (a,c,e)=>HX (n9 a) (kI n 128)&&GK (n9 c) (n9 s)&&GK (n9 e) (n9 v)
   |none=>false)
 |none=>false
def Je (s v l:Fx):Bool:=match pJ (.int 2) (.fx l),(n0 (.int 2) (.fx s)).bind λc=>pJ (.fx v) c with
 |some a,aa d=>rZ a d&&GK (n9 s) (n9 s)&&GK (n9 v) (n9 v)
 |_,_=>false
def wb (s v:Fx):Bool:=match IN s v with
 |(l,d)=>Je s v l&&(ag 127).all (IK s v)&&(ag 255).all (IY s v l d)
theorem d1:wb (nH 1) (nH 4)=ai:=by decide+kernel
theorem d2:wb (nH 2) (nH 4)=ai:=by decide+kernel
theorem d3:wb (nH 3) (nH 3)=ai:=by decide+kernel
theorem d4:wb (nH 4) (nH 3)=ai:=by decide+kernel
theorem d5:wb (nH 1) (nH 2)=ai:=by decide+kernel
theorem d6:wb (nH 2) (nH 2)=ai:=by decide+kernel
theorem d7:wb (nH 3) (nH 1)=ai:=by decide+kernel
theorem d8:wb (nH 4) (nH 1)=ai:=by decide+kernel
theorem MT (h:q∈xn):wb (nH q.1) (nH q.2)=ai:=by
 simp only [xn,ao,fD,or_false] at h
 rcases h with rfl|rfl|rfl|rfl|rfl|rfl|rfl|rfl
 ·exact d1
 ·exact d2
 ·exact d3
 ·exact d4
 ·exact d5
 ·exact d6
 ·exact d7
 ·exact d8
theorem MC:(ag 128).all (λn=>HX (n9 (pE n)) n)=ai:=by decide+kernel
theorem tE (h:w6 a b=ai):a=b:=by
 obtain ⟨s,m⟩:=a
 obtain ⟨s',m'⟩:=b
 cases s<;>cases s'
 ·have:=bO h
  dsimp only at this;rw [this]
 ·exact oW h
 ·exact oW h
 ·exact oW h
theorem He (h:HX x n=ai):x=aa (n:Int):=by
 unfold HX at h
 split at h
 ·rw [bO h];rfl
 ·exact oW h
set_option tactic.hygienic true in
theorem Bl (h:GK x y=ai): ∃k:Int,x=aa k/\y=aa k:=by
 unfold GK at h
 split at h
 ·rename_i a b
  exact ⟨_,rfl,by rw [bO h]⟩
 ·exact oW h
set_option tactic.hygienic true in
theorem Hy (h:H6 s v l d p=ai): ∃q:Fx×Fx×Fx,(sy (.fx (pE p)) (.fx s) (.fx v)).bind qy=aa q/\(oJ (.fx q.1) (.fx q.2.1) (.fx q.2.2)).bind qy=aa (pE p,s,v)/\(uM (.fx q.1) (.fx q.2.1) (.fx q.2.2)).bind qy=aa (pE p,l,d):=by
 unfold H6 at h
 split at h
 ·rename_i r g b e
  refine ⟨_,e,?_⟩
  rw [bI] at h
  refine eA h λh1 h2=> ?_
  split at h1
  ·rename_i x y z e1
   split at h2
   ·rename_i x' y' z' e2
    simp only [bI] at h1 h2
    rw [e1,e2,tE h1.1.1,tE h1.1.2,tE h1.2,tE h2.1.1,tE h2.1.2,tE h2.2]
    exact ⟨rfl,rfl⟩
   ·exact oW h2
  ·exact oW h1
 ·exact oW h
set_option tactic.hygienic true in
theorem Og (h:IK s v m=ai): ∃q:Fx×Fx×Fx,(sy (.fx (pE (m+128))) (.fx s) (.fx v)).bind qy=aa q/\(oJ (.fx q.1) (.fx q.2.1) (.fx q.2.2)).bind qy=aa (pE m,s,v):=by
 unfold IK at h
 split at h
 ·rename_i r g b e
  refine ⟨_,e,?_⟩
  split at h
  ·rename_i x y z e1
   simp only [bI] at h
   rw [e1,tE h.1.1,tE h.1.2,tE h.2]
  ·exact oW h
 ·exact oW h
set_option tactic.hygienic true in
theorem Pg (h:IY s v l d n=ai): ∃q u:Fx×Fx×Fx,(wj (.fx (pE n)) (.fx l) (.fx d)).bind qy=aa q/\(oJ (.fx q.1) (.fx q.2.1) (.fx q.2.2)).bind qy=aa u/\n9 u.1=aa ((n % 128:Nat):Int)/\ ∃j k:Int,n9 u.2.1=aa j/\n9 s=aa j/\n9 u.2.2=aa k/\n9 v=aa k:=by
 unfold IY at h
 split at h
 ·rename_i r g b e
  split at h
  ·rename_i x y z e1
   simp only [bI] at h
   refine mX (Bl h.1.2) λj j1 j2=> ?_
   refine mX (Bl h.2) λk k1 k2=> ?_
   exact ⟨(r,g,b),(x,y,z),e,e1,He h.1.1,j,k,j1,j2,k1,k2⟩
  ·exact oW h
 ·exact oW h
set_option tactic.hygienic true in
theorem Ph (h:Je s v l=ai): ∃a c d:PV,∃j k:Int,pJ (.int 2) (.fx l)=aa a/\n0 (.int 2) (.fx s)=aa c/\pJ (.fx v) c=aa d/\rZ a d=ai/\n9 s=aa j/\n9 v=aa k:=by
 unfold Je at h
 split at h
 ·rename_i a d e1 e2
  refine mX (bd.mp e2) λc c1 c2=> ?_
  simp only [bI] at h
  refine mX (Bl h.1.2) λj j1 _=> ?_
  refine mX (Bl h.2) λk k1 _=> ?_
  exact ⟨a,c,d,j,k,e1,c1,c2,h.1.1,j1,k1⟩
 ·exact oW h
theorem Lo (h:Ki n m=ai):qK (.fx (pE n)) (.fx (pE m))=aa (.fx (pE (n+m))):=by
 exact Ho h
theorem Pb (hn:n<128) (hm:m<128):qK (.fx (pE n)) (.fx (pE m))=aa (.fx (pE (n+m))):=by
 exact Lo (br.mp (br.mp Jd n (aL.mpr hn)) m (aL.mpr hm))
theorem Ml (hn:n<128):n9 (pE n)=aa (n:Int):=He (br.mp MC n (aL.mpr hn))
theorem Iy (h:x.bind qy=aa q): ∃t,x=aa t/\qy t=aa q:=bd.mp h
theorem sg {α β:Type} {x:Option α} {a:α} {f:α->Option β} {r:Option β} (h:x=aa a) (k:f a=r):x.bind f=r:=by rw [h];exact k
theorem Cp {β:Type} {x:Option PV} {f:Fx×Fx×Fx->Option β} {r:Option β} (h:x.bind qy=aa q) (k:f q=r):(x.bind λt=>(qy t).bind f)=r:=by
 refine mX (Iy h) λt h1 h2=> ?_
 exact sg h1 (sg h2 k)
theorem FW {j k:Int} {z:Nat}:(aa (((z:Int)+64*(if (!(j==j&&k==k)|| !ai)=ai then 1 else 0)).fmod 128):Option Int)=aa ((z % 128:Nat):Int):=by
 simp only [beq_self_eq_true,Bool.and_self,iN,Bool.or_self,a9,if_false]
 rw [bM _ (by decide)]
 congr 1
theorem MR {n:Nat} (hb:(b !=0)=ai) (e1:vz p=aa h) (e2:(sy h (.fx s) (.fx v)).bind qy=aa q) (e3:vz a=aa UZ) (e4:(uM (.fx q.1) (.fx q.2.1) (.fx q.2.2)).bind qy=aa (hu,l,d))
  (s1:pJ (.int 2) (.fx l)=aa x) (s2:n0 (.int 2) (.fx s)=aa c) (s3:pJ (.fx v) c=aa y) (s4:rZ x y=ai) (e5:qK (.fx hu) UZ=aa hh) (e6:(wj hh (.fx l) (.fx d)).bind qy=aa q2) (e7:(oJ (.fx q2.1) (.fx q2.2.1) (.fx q2.2.2)).bind qy=aa u)
  (h3:n9 u.1=aa (n:Int)) (h4:n9 u.2.1=aa j) (h5:n9 u.2.2=aa k) (h6:n9 s=aa j) (h7:n9 v=aa k):wS p a b s v=aa ((n % 128:Nat):Int):=by
 refine sg e1 (Cp e2 (sg e3 ?_))
 rw [hb]
 refine mX (Iy e6) λt k1 k2=> ?_
 refine sg (a:=(ai,t)) (Cp e4 (sg s1 (sg s2 (sg s3 (sg e5 (sg k1 (by rw [s4]))))))) ?_
 exact sg k2 (Cp e7 (sg h3 (sg h4 (sg h5 (sg h6 (sg h7 FW))))))
theorem Lz {n:Nat} (hb:(b !=0)=false) (e1:vz p=aa h) (e2:(sy h (.fx s) (.fx v)).bind qy=aa q) (e3:vz a=aa UZ) (e4:(oJ (.fx q.1) (.fx q.2.1) (.fx q.2.2)).bind qy=aa (hu,s',v'))
  (e5:qK (.fx hu) UZ=aa hh) (e6:(sy hh (.fx s') (.fx v')).bind qy=aa q2) (e7:(oJ (.fx q2.1) (.fx q2.2.1) (.fx q2.2.2)).bind qy=aa u)
  (h3:n9 u.1=aa (n:Int)) (h4:n9 u.2.1=aa j) (h5:n9 u.2.2=aa k) (h6:n9 s=aa j) (h7:n9 v=aa k):wS p a b s v=aa ((n % 128:Nat):Int):=by
 refine sg e1 (Cp e2 (sg e3 ?_))
 rw [hb]
 refine mX (Iy e6) λt k1 k2=> ?_
 refine sg (a:=(ai,t)) (Cp e4 (sg e5 (sg k1 rfl))) ?_
 exact sg k2 (Cp e7 (sg h3 (sg h4 (sg h5 (sg h6 (sg h7 FW))))))
theorem OY (hA: ∀p,p<128->H6 s v l d p=ai) (hS:Je s v l=ai) (hC: ∀p,p<127->IK s v p=ai) (hL: ∀p,p<255->IY s v l d p=ai) {p a:Nat} (hp:p<128) (ha:a<128):wS p a b s v=aa (((p+a) % 128:Nat):Int):=by
 refine GG (Ph hS) λx c y j k s1 s2 s3 s4 s5 s6=> ?_
 refine tL (Hy (hA p hp)) λq0 a1 a2 a3=> ?_
 have sm:=Pb hp ha
 have hq:=Ed hp
 have hr:=Ed ha
 have UK: ∀n:Nat,n=(p+a) % 128->(((p+a) % 128:Nat):Int)=((n % 128:Nat):Int):=λn e=>by exact (mK (.i (.e xC (.e (.a xA xB) 128)) (.E (.k (.e (.a xA xB) 128)) (.k (.e xC 128)))) [_,_,_]) e
 cases hb:(b !=0) with
 |true=>
  refine F9 (Pg (hL (p+a) (by exact (mK (.i (.b xA xR) (.i (.b xB xR) (.b (.a xA xB) (.c 255)))) [_,_]) hp ha))) λq2 u l1 l2 l3 j' k' l4 l5 l6 l7=> ?_
  rw [s5] at l5
  rw [s6] at l7
  obtain rfl:=am l5
  obtain rfl:=am l7
  rw [UK _ rfl]
  exact MR hb hq a1 hr a3 s1 s2 s3 s4 sm l1 l2 l3 l4 l6 s5 s6
 |false=>
  have: ∃q2:Fx×Fx×Fx,(sy (.fx (pE (p+a))) (.fx s) (.fx v)).bind qy=aa q2/\(oJ (.fx q2.1) (.fx q2.2.1) (.fx q2.2.2)).bind qy=aa (pE ((p+a) % 128),s,v):=by
   rcases dI (p+a) 128 with h|h
   ·refine tL (Hy (hA (p+a) h)) λq2 b1 b2 z=> ?_
    rw [Nat.mod_eq_of_lt h]
    exact ⟨q2,b1,b2⟩
   ·obtain ⟨m,em⟩: ∃m,p+a=m+128:=⟨p+a - 128,by exact (mK (.i (.l xR (.a xA xB)) (.e (.a xA xB) (.a (.s (.a xA xB) xR) xR))) [_,_]) h⟩
    rw [em]
    refine mX (Og (hC m (by exact (mK (.i (.b xB xR) (.i (.b xC xR) (.i (.e (.a xB xC) (.a xA xR)) (.b xA (.c 127))))) [_,_,_]) hp ha em))) λq2 b1 b2=> ?_
    rw [show (m+128) % 128=m by exact (mK (.i (.b xB xR) (.i (.b xC xR) (.i (.e (.a xB xC) (.a xA xR)) (.e (.e (.a xA xR) 128) xA)))) [_,_,_]) hp ha em]
    exact ⟨q2,b1,b2⟩
  refine mX this λq2 l1 l2=> ?_
  rw [UK _ rfl]
  exact Lz hb hq a1 hr a2 sm l1 l2 (Ml (fL _ (by decide))) s5 s6 s5 s6
theorem Ej (h:(ag n).all f=ai): ∀p,p<n->f p=ai:=λp hp=>br.mp h p (aL.mpr hp)
theorem Lm (hA:Lh s v=ai) (hD:wb s v=ai) {p a:Nat} (hp:p<128) (ha:a<128):wS p a b s v=aa (((p+a) % 128:Nat):Int):=by
 unfold Lh at hA
 unfold wb at hD
 revert hA hD
 cases IN s v with
 |mk l d=>
  intro hA hD
  rw [bI,bI] at hD
  exact OY (Ej hA) hD.1.1 (Ej hD.1.2) (Ej hD.2) hp ha
theorem Ol {p a:Nat} (hq:q∈xn) (hp:p<128) (ha:a<128):wS p a b (nH q.1) (nH q.2)=aa (((p+a) % 128:Nat):Int):=
 Lm (br.mp Mq q hq) (MT hq) hp ha
section
variable {prog:aG} {w:au} {c:Sc} {σ:m7} {Λ:List (aF×List PV)} {base:aW} {outer:List Env} {m:Str}
def uZ (base:aW) (outer:List Env) (m:Str) (g:aW) (s:aq) (e:ay) (s':aq):Prop:=
 nK s s'/\g.UpToSlots s'.heap/\ ∃a t tk,e= .ref a/\jh base outer a (.type "ValueError") (.ref t) s'.heap/\s'.heap.TupAt t [.str m tk]
structure sQ (c:Sc) (base:aW) (outer:List Env):Prop where
 stack:c.A.frames=aa (c.env::outer)
 stays:base.StaysIn c.g
 frames:c.g.FunFrames base outer
 frame:c.env.frame=aa c.env.locals
 fn:c.env.scope.kind= .function
 fresh:base.get? c.env.locals=az
def wO (c:Sc) (h:aW):Prop:=m4 c.g h/\ ∃m,h.Ns c.env.locals m
theorem wO.of (i:In c σ Λ h):wO c h:=⟨i.keep,let ⟨m,n,_⟩:=i.loc;⟨m,n⟩⟩
theorem sQ.funs (b:sQ c base outer) (f:wO c h):h.FunFrames base (c.env::outer):=
 let ⟨k,m,n⟩:=f
 .cons (by rw [b.fn];decide) b.frame n b.fresh (b.frames.of_keeps λx o e z=>⟨o,k x o e,rfl⟩)
theorem sQ.stay (b:sQ c base outer) (f:wO c h):base.StaysIn h:=λx o e=>f.1 x o (b.stays x o e)
def Ak (c:Sc) (base:aW) (outer:List Env) (m:Str) (s:aq) (e:ay) (s':aq):Prop:=
 nK s s'/\((∃h a tk,e= .ref a/\wO c h/\aW.MadeExc h s'.heap a "ValueError" [.str m tk])\/ ∃h,wO c h/\h.UpToSlots s'.heap/\ ∃a t tk,e= .ref a/\jh base (c.env::outer) a (.type "ValueError") (.ref t) s'.heap/\s'.heap.TupAt t [.str m tk])
theorem Ak.leaves {Q:Unit->aq->Prop} (B:sQ c base outer) (t:Ak c base outer m s e VG) (hQ: ∀s',uZ base outer m c.g s e s'->Q () s'):aC M c.A (leaving c.env e) Q E VG:=by
 obtain ⟨x,t⟩:=t
 rcases t with ⟨h,a,tk,rfl,f,hm⟩|⟨h,f,u,a,t,tk,rfl,fl,ta⟩
 ·refine wpAny_leaves_madeW B.stack B.frame (B.stay f) (B.funs f) hm.of λh' t h1 h2 h3 h4=>hQ _ ⟨?_,?_,a,t,tk,rfl,h1,h2⟩
  ·refine rU x ?_;clear x;intro Ul Vo Ub;obtain rfl:=Ub
   exact ⟨_,_,rfl⟩
  ·exact ((cR f.1).trans (cR hm.keeps)).trans h4
 ·refine wpAny_leaves_onW B.stack B.frame fl λh' h1 h2=>hQ _ ⟨?_,?_,a,t,tk,rfl,h1,ta.of_slots h2⟩
  ·refine rU x ?_;clear x;intro Ul Vo Ub;obtain rfl:=Ub
   exact ⟨_,_,rfl⟩
  ·exact ((cR f.1).trans u).trans h2
structure wg (prog:aG) (w:au) (c:Sc) (I:aW->Prop) (base:aW) (outer:List Env) (m:Str) (b:List eh):Prop where
 run: ∀s:aq,I s.heap->aC (aI prog w) c.A (iB b c.env) (λz z=>False) (Ak c base outer m s) s
theorem Ak.ext (x:nK VG s) (t:Ak c base outer m s e s'):Ak c base outer m VG e s':=⟨x.trans t.1,t.2⟩
theorem C0 {st:eh} {I I':aW->Prop} (h:mZ prog w c.env c.A I [st] (λfl h=>fl= .next/\I' h)) (k:wg prog w c I' base outer m b):wg prog w c I base outer m (st::b):=.mk λs i=>by
 have h1:=h.run s i
 rw [ci] at h1 ⊢
 intro Γ p hΓ
 have h2:=h1 Γ p hΓ
 rw [di] at h2 ⊢
 refine cg _ Γ _ (λfl UX Ud q=> ?_) (λz z z e=>e.elim) _ _ h2
 cases fl with
 |next=>
  have q':nK s Ud/\I' Ud.heap:=by simpa [execs_nil] using q
  exact cg _ Γ _ (λz z z e=>e) (λz z z t=>t.ext q'.1) _ _ (k.run Ud q'.2 Γ UX hΓ)
 |brk=>exfalso;simpa using q
 |cont=>exfalso;simpa using q
 |ret v=>exfalso;simpa using q
theorem zR (d:Bool) (ht:Tr prog w (fs c σ Λ) t d)
  (hb:d=ai->wg prog w c (In c σ Λ) base outer m (b++rest)) (ho:d=false->wg prog w c (In c σ Λ) base outer m (o++rest)):
  wg prog w c (In c σ Λ) base outer m (.If t b o pos::rest):=.mk λs i Γ p hΓ=>by
 rw [ci,di,exec_If]
 simp only [di,ja]
 refine cg _ Γ _ (λe UX Ud ⟨k,q⟩=> ?_) (λz z z e=>e.elim) _ _ (ht.run s i Γ _ hΓ)
 subst q
 cases e with
 |true=>exact uL b UX Ud (cg _ Γ _ (λfl z Uk f=>f.elim) (λz z z e=>e.ext (nK.of k)) _ _ ((hb rfl).run Ud (i.mono (mN k)) Γ UX hΓ))
 |false=>exact uL o UX Ud (cg _ Γ _ (λfl z Uk f=>f.elim) (λz z z e=>e.ext (nK.of k)) _ _ ((ho rfl).run Ud (i.mono (mN k)) Γ UX hΓ))
theorem Gv (he:Ev prog w (fs c σ Λ) e p) (hb:wg prog w c (In c ((x,p)::σ) Λ) base outer m b)
  (hx:autoParam (sG c x) X2) (hk:autoParam (c.env.scope.kind= .function) X1) (hs:autoParam (cK e (aa (.Name x px)) pos.line c.env=bG false) X1):
  wg prog w c (In c σ Λ) base outer m (.Assign [.Name x px] e pos::b):=
 C0 (mS he (sO λh i=>⟨rfl,i⟩) hx hk hs) hb
theorem Br (hx:Ev prog w (fs c σ Λ) (.Name x np) (.raw (.type "ValueError"))) (he:Ev prog w (fs c σ Λ) e₀ (.str m)) (hh:c.A.handled=az)
  (hs:autoParam (aE [e₀] c.env=(false,bJ e₀ c.env)::aE [] c.env) X1):wg prog w c (In c σ Λ) base outer m (.Raise (aa (.Call (.Name x np) [e₀] [] cpos)) az pos::b):=.mk λs i=>by
 rw [ci]
 refine ae (Raise_madeB F.excCall_ValueError F.excRaise_ValueError hh (ab (hx.run s i) (λv Ua uu=>eA uu λUc Uf=> ?_) λz z e=>e.elim) hs (by rfl))
 subst Uf
 refine ⟨rfl,?_⟩
 have Uj:=i.mono (mN Uc)
 refine ab ((mM (pos:=cpos) he mP hs).run Ua Uj) (λvs Ud uu=>eA uu λUe Ur=> ?_) λz z e=>e.elim
 refine mX (qQ Ur) λv Ub rv=> ?_;obtain rfl:=Ub
 refine eE (nG rv) λtk Ub=> ?_;obtain rfl:=Ub
 refine ⟨by show 1<=bo;decide,λh' e hm=> ?_⟩
 have k:=mO Uc Ue
 refine o6 k ?_;clear k;intro UE Vz Ub k';obtain rfl:=Ub
 exact ⟨⟨_,_,rfl⟩,.inl ⟨_,e,tk,rfl,wO.of (i.mono k'),hm⟩⟩
structure KI (prog:aG) (w:au) (c:Sc) (σ:m7) (Λ:List (aF×List PV)) (base:aW) (outer:List Env) (m:Str) (e:Expr):Prop where
 run: ∀s:aq,In c σ Λ s.heap->aC (aI prog w) c.A (bJ e c.env) (λz z=>False) (Ak c base outer m s) s
def PG (prog:aG) (w:au) (A:aX) (X:List aF) (I:aW->Prop) (base:aW) (outer:List Env) (f:ay) (ps:List PV) (ks:List (Str×PV)) (m:Str):Prop:=
 ∀(s:aq) (vs us:List ay),I s.heap->oj X s.heap->mR X s.heap ps vs->mR X s.heap (ks.map (·.2)) us->j6 A base outer s.heap->aC (aI prog w) A (ft f vs ((ks.map (·.1)).zip us)) (λz z=>False) (uZ base outer m s.heap s) s
theorem sQ.below (b:sQ c base outer) (f:wO c h):j6 c.A base (c.env::outer) h:=⟨b.stack,b.stay f,b.funs f⟩
theorem uZ.thr (x:nK s Ud) (f:wO c Ud.heap) (t:uZ base (c.env::outer) m Ud.heap Ud e s'):Ak c base outer m s e s':=
 ⟨x.trans t.1,.inr ⟨_,f,t.2.1,t.2.2⟩⟩
theorem L7 {id:Str} (B:sQ c base outer) (hf:Ev prog w (fs c σ Λ) (.Name id np) (.raw f)) (ha:tS prog w (fs c σ Λ) pos (e::es) ps)
  (hk: ∀s:aq,In c σ Λ s.heap->s8 c.A prog w f s) (hc:PG prog w c.A c.X (In c σ Λ) base (c.env::outer) f ps [] m)
  (he:autoParam (aE (e::es) c.env=(false,bJ e c.env)::aE es c.env) X1):KI prog w c σ Λ base outer m (.Call (.Name id np) (e::es) [] pos):=.mk λs i=>by
 refine cm (ab (hf.run s i) (λv Ua uu=>eA uu λUc Uf=> ?_) λz z e=>e.elim)
 subst Uf
 refine nQ (qv (ab (ha.run Ua (i.mono (mN Uc))) (λvs Ud uu=>eA uu λUe Ur=> ?_) λz z e=>e.elim) he)
 have Ui:=i.mono (mN (mO Uc Ue))
 exact ⟨hk _ Ui,ab (hc Ud vs [] Ui Ui.liveAll Ur mR.nil (B.below (wO.of Ui))) (λz z f=>f.elim) λz z e=>e.thr (nK.of (mO Uc Ue)) (wO.of Ui)⟩
theorem Es (he:KI prog w c σ Λ base outer m e) (hs:autoParam (cK e (aa (.Name x px)) pos.line c.env=bG false) X1):
  wg prog w c (In c σ Λ) base outer m (.Assign [.Name x px] e pos::b):=.mk λs i=>by
 rw [ci]
 exact ae (cO (ab (he.run s i) (λz z f=>f.elim) λz z e=>e) hs)
theorem y7 {ns:List Str} {K:aq->Prop}
  (d:xx s.heap a fd body) (UR:A.depth<dC) (lx:oj X s.heap)
  (Uv:aC (aI prog w) A.in1 (ey fd ⟨vs,kw⟩) (λUB Ua=>bB s Ua/\K Ua/\ ∃us,UB=ns.zip us/\mR X Ua.heap qs us) (λz z=>False) s)
  (F:AV fd ns) (Bw:j6 A base outer s.heap)
  (h: ∀(Ua:aq) L,m4 s.heap Ua.heap->K Ua->oj X Ua.heap->sQ (m5 fd a A X [] Ua.heap L) base outer->wg prog w (m5 fd a A X [] Ua.heap L) (In (m5 fd a A X [] Ua.heap L) (qr ns qs) []) base outer m body):
  aC (aI prog w) A (ft (.ref a) vs kw) (λz z=>False) (uZ base outer m s.heap s) s:=by
 refine eo (wE (M:=[]) (X:=X) (K:=K) (ns:=ns) (qs:=qs) (Λ:=[]) d UR lx (λz h=>nomatch h) (λz h=>nomatch h) (ab Uv (λz z h=>h) λz z f=>f.elim) (λz h=>nomatch h) F λL Ua Ud Uc hK Ue z hL Ui=> ?_)
 have Vy:In (m5 fd a A X [] Ua.heap L) (qr ns qs) [] Ud.heap:=Ui
 have B:sQ (m5 fd a A X [] Ua.heap L) base outer:={
  stack:=fH Bw.stack
  stays:=λx o e=>mN Uc x o (Bw.stays x o e)
  frames:=Bw.frames.of_keeps λx o e z=>⟨o,mN Uc x o e,rfl⟩
  frame:=rfl
  fn:=F.kind
  fresh:=by
   show base.get? L=az
   cases hq:base.get? L with
   |none=>rfl
   |some o=>rw [mN Uc _ _ (Bw.stays _ _ hq)] at hL;cases hL}
 refine ab ((h Ua L (mN Uc) hK (lx.keep (mN Uc)) B).run Ud Vy) (λz z f=>f.elim) λe s' t=> ?_
 refine Ak.leaves B t λVC f=> ?_
 exact ⟨((nK.of Uc).trans (nK.of Ue)).trans f.1,(cR (mN Uc)).trans f.2.1,f.2.2⟩
end
section
variable {w:au} {base:aW} {outer:List Env}
noncomputable def xu:Str:=aS "maxlinelen must be at least 4"
noncomputable def w5:Str:=aS "Control characters not allowed in headers"
theorem Gp (hr:pG 2 A) (hI:ox w.params s.heap) (hO:sY w.params X) (lx:oj X s.heap) (rv:mV X s.heap (.str (S T)) v) (ru:mV X s.heap (.int 3) u) (Bw:j6 A base outer s.heap):
  aC (aI mJ w) A (ft (.ref 89) [v,u]) (λz z=>False) (uZ base outer xu s.heap s) s:=by
 refine y7 (K:=λz=>True) (ns:=["body","maxlinelen","eol"]) (qs:=[.str (S T),.int 3,.str (S [10])]) (hI.defAt (Cr _)) hr.lim lx ?_ (wh (by kernel_rfl)) Bw (λUa L k z lx1 B=> ?_)
 ·have hb:mi s v5 ⟨[v,u],[]⟩ ((["body","maxlinelen","eol"]:List Str).zip [v,u,.str (S [10]) 291]):=.of_defaults rfl (hI.frag 82 KA (by kernel_rfl)) rfl (by with_unfolding_all rfl) (by with_unfolding_all rfl)
  exact hb _ _ _ _ ⟨mU _,trivial,_,rfl,mR.cons rv (mR.cons ru (mR.cons ou mR.nil))⟩
 ·have G:Gd w 1 (m5 v5 89 A X [] Ua.heap L):=⟨hI.keep k,hO,hr.deeper _,rfl,rfl,rfl⟩
  refine zR (decide ((3:Int)<4)) (m8 (p:=.int 3) (q:=.int 4) ?_ ?_ rA) (λz=> ?_) (λc=>absurd c (by decide))
  ·walk_at "ev"
  ·walk_at "ev"
  ·exact Br (r6 G (v:=.type "ValueError") (by kernel_rfl) (by kernel_rfl)) (nh (by rfl)) G.room.1
theorem yT:fu (.type "re.Match") "__bool__"=bG az:=by rw [cz,bA];kernel_rfl
theorem Au:fu (.type "re.Match") "__len__"=bG az:=by rw [cz,bA];kernel_rfl
theorem FT {Q:Bool->aq->Prop} (hT:s.TypeIs (.ref a) "re.Match") (h:Q ai s):aC (aI mJ w) A (truthy (.ref a)) Q E s:=by
 first
  |refine ae (lU (name:=aS "__bool__") hT yT ?_)
  |refine ae (aj (ae (lU (name:=aS "__bool__") hT yT ?_)))
 first
  |refine ae (fh (name:=aS "__len__") hT Au ?_)
  |refine ae (aj (ae (fh (name:=aS "__len__") hT Au ?_)))
 first
  |exact aj h
  |exact ae (aj (aj h))
theorem Pa {T:List Nat} (h: ∃c∈T,vf c=ai): ∃k,k<T.length/\(∀i,i<k->vf (T.getD i 0)=false)/\vf (T.getD k 0)=ai:=by
 induction T with
 |nil=>refine mX h λc hc z=> ?_;cases hc
 |cons d T ih=>
  cases hd:vf d with
  |true=>exact ⟨0,by simp,λi hi=>absurd hi (jO _),hd⟩
  |false=>
   refine mX h λc hc hv=> ?_
   rcases ao.mp hc with rfl|hc
   ·rw [hd] at hv;exact oW hv
   ·refine tL (ih ⟨c,hc,hv⟩) λk h1 h2 h3=> ?_
    refine ⟨k+1,by simpa using h1,λi hi=> ?_,h3⟩
    cases i with
    |zero=>exact hd
    |succ i=>exact h2 i (by exact (mK (.i (.b (.a xA xI) (.a xB xI)) (.b xA xB)) [_,_]) hi)
theorem Il (hr:pG 2 A) (hI:ox w.params s.heap) (hO:sY w.params X) (lx:oj X s.heap) (rx: ∃a,x= .ref a) (rv:mV X s.heap (.str (S T)) v) (ru:mR X s.heap [.bool false] us) (hT:T.length<=1000) (hV: ∃c∈T,vf c=ai) (Bw:j6 A base outer s.heap):
  aC (aI mJ w) A (ft (.ref 194) [x,v] ((["name"]:List Str).zip us)) (λz z=>False) (uZ base outer w5 s.heap s) s:=by
 refine eE rx ?_;clear rx;intro a Ub;obtain rfl:=Ub
 refine mX (qQ ru) λu Ub rb=> ?_;obtain rfl:=Ub
 refine y7 (K:=λz=>True) (ns:=["self","value","name"]) (qs:=[.raw (.ref a),.str (S T),.bool false]) (hI.defAt (zO _)) hr.lim lx ?_ (wh (by kernel_rfl)) Bw (λUa L k z lx1 B=> ?_)
 ·have hb:mi s B5 ⟨[.ref a,v],(["name"]:List Str).zip [u]⟩ ((["self","value","name"]:List Str).zip [.ref a,v,u]):=.of_eq (by kernel_rfl!)
  exact hb _ _ _ _ ⟨mU _,trivial,_,rfl,mR.cons pi (mR.cons rv (mR.cons rb mR.nil))⟩
 ·have G:Gd w 1 (m5 B5 194 A X [] Ua.heap L):=⟨hI.keep k,hO,hr.deeper _,rfl,rfl,rfl⟩
  refine zR ai (m8 (p:=.raw (.type "str")) (q:=.raw (.type "str")) (oq G (ps:=[.str (S T)]) (by kernel_rfl) (by kernel_rfl) (mM ?_ mP) zh (.inr ⟨_,rfl⟩)) (r6 G (v:=.type "str") (by kernel_rfl) (by kernel_rfl)) (De rfl)) (λz=> ?_) (λe=>by exact rI e)
  ·walk_at "ev"
  refine Gv (p:=.raw (.ref 164)) (D0 (c:=false) (rF (p:=.bool false) ?_ qA) (λe=>by exact oW e) (λe=>ul G (by kernel_rfl))) ?_
  ·walk_at "ev"
  refine tL (Pa hV) λkk VO XR hk3=> ?_
  have Wv:uy (bk ph T.toArray 0 0 T.toArray.size false) kk (kk+1):=by
   refine Pn (by simpa using VO) (λi hi=> ?_) ?_
   ·rw [pW];exact XR i hi
   ·rw [pW];exact hk3
  refine zR ai (.mk λs i=>jF ?_) (λz=> ?_) (λe=>by exact rI e)
  ·have ob:=(G.inBase _ i).frag 164 CA (by kernel_rfl)
   have hreg: ∀p,Ev mJ w (fs (m5 B5 194 A X [] Ua.heap L) [("regex",.raw (.ref 164)),("name",.bool false),("value",.str (S T)),("self",.raw (.ref a))] []) (.Name "regex" p) (.raw (.ref 164)):=λp=>by walk_at "ev"
   have harg: ∀p p',tS mJ w (fs (m5 B5 194 A X [] Ua.heap L) [("regex",.raw (.ref 164)),("name",.bool false),("value",.str (S T)),("self",.raw (.ref a))] []) p [.Name "value" p'] [.str (S T)]:=λp p'=>mM (by walk_at "ev") mP
   refine dN (T:="re.Pattern") (by rfl) (by rfl) (by rfl) Pat.plainAttrs Pat.slot_search Pat.type_search (ab ((hreg _).run s i) (λov Ud uu=>eA uu λUc Uf=> ?_) λz z e=>e)
   subst Uf
   have Uj:=i.mono (mN Uc)
   have ob:=(G.inBase _ Uj).frag 164 CA (by kernel_rfl)
   refine ⟨⟨_,ob,rfl⟩,λb e=>by cases e;exact ⟨_,ob,rfl⟩,nQ (qv (ab ((harg _ _).run Ud Uj) (λvs Uk uu=>eA uu λUe Ur=> ?_) λz z e=>e) (by rfl))⟩
   have Ui:=Uj.mono (mN Ue)
   refine mX (qQ Ur) λv' Ub rv'=> ?_;obtain rfl:=Ub
   refine eE (nG rv') λtk Ub=> ?_;obtain rfl:=Ub
   refine ⟨rM,FX (y5 (G.inBase _ Ui)).1 (by simp;exact (mK (.i (.l xA xQ) (.l xA (.c 100000))) [_]) hT) (y5 (G.inBase _ Ui)).2 Wv λUw cc o Um e1 e2=> ?_⟩
   exact FT ⟨_,e1,e2⟩ ⟨mO Uc (mO Ue Um),rfl⟩
  ·exact Br (r6 G (v:=.type "ValueError") (by kernel_rfl) (by kernel_rfl)) (nh (by rfl)) G.room.1
end
section
variable {w:au} {base:aW} {outer:List Env} {m:Str} {c:Sc} {σ:m7} {Λ:List (aF×List PV)}
theorem JL (G:Gd w n c) (B:sQ c base outer)
  (ho:tO mJ w (fs c σ Λ) o H) (hH: ∀h a,H h a-> ∃d D,oX h a d D) (hm: ∀h h' a,H h a->m4 h h'->H h' a)
  (hf:iV (KB w.params) (.ref 293) name=aa (aa (.ref f))) (Wh:(KB w.params).lookup f=aa ⟨oc,od,.func fd,sl⟩) (hn:(name==("_headers":Str))=false) (VK:me (KB w.params) (.ref f)=aa (.type "function"))
  (ha:tS mJ w (fs c σ Λ) pos (e::es) ps) (hk:EN mJ w (fs c σ Λ) pos Vp ks) (hc: ∀a,PG mJ w c.A c.X (λh=>In c σ Λ h/\H h a) base (c.env::outer) (.ref f) (.raw (.ref a)::ps) ks m)
  (V5:autoParam (bJ (.Call (.Attribute o name apos) (e::es) Vp pos) c.env=(do
   let ov <-bJ o c.env
   iv apos.atName
   let (f,first) <-gW [ov] (hZ ov name pl)
   gJ pos f first (fb pos (aE (e::es) c.env)) (cN pos (bR Vp c.env)))) X1)
  (he:autoParam (aE (e::es) c.env=(false,bJ e c.env)::aE es c.env) X1):
  KI mJ w c σ Λ base outer m (.Call (.Attribute o name apos) (e::es) Vp pos):=.mk λs i=>by
 refine jx (ab (ho.run s i) (λv Ua uu=>o8 uu λUc a ea Ul=> ?_) λz z e=>e.elim) V5
 subst ea
 have Uj:=i.mono (mN Uc)
 refine rU (hH _ _ Ul) λd D t=> ?_
 refine tL (vQ t) λW1 I e1 e2=> ?_
 refine lS (G.inBase _ Uj).frag I (BX _) (DR _) hf VK (by show (gp name W1).map _=_;rw [e2 _ hn];rfl) ?_
 refine nQ (evalArgs_kw2 hk.1 (ab (ha.run Ua Uj) (λvs Ud uu=>eA uu λUe Ur=>ab (hk.2.2 Ud (Uj.mono (mN Ue))) (λus Uk uu=>eA uu λUm Ut=> ?_) λz z e=>e.elim) λz z e=>e.elim) he)
 have k13:=mO Ue Um
 have Us:=Uj.mono (mN k13)
 refine ⟨rE ((G.inBase _ Us).frag _ _ Wh) rfl,?_⟩
 show aC _ _ (ft (.ref f) ([.ref a]++vs) ((io (λx=>x.fst) (cN pos (bR Vp c.env))).zip us)) _ _ _
 rw [show io (λx=>x.fst) (cN pos (bR Vp c.env))=ks.map (·.1) from hk.2.1]
 exact ab (hc a Uk (.ref a::vs) us ⟨Us,hm _ _ _ Ul (mN k13)⟩ Us.liveAll (mR.cons pi (Ur.keep (mN Um))) Ut (B.below (wO.of Us))) (λz z f=>f.elim) λz z f=>f.thr (nK.of (mO Uc k13)) (wO.of Us)
theorem sQ.addOwn (B:sQ c base outer):sQ (c.addOwn D) base outer:=⟨B.stack,B.stays,B.frames,B.frame,B.fn,B.fresh⟩
theorem Jz (r3:pG 3 A) (B0:ox w.params s.heap) (lx:oj X s.heap) (hO:sY w.params X) (t:oX s.heap a d D)
  (ru:mV X s.heap (.str (S nm)) u) (rz:mV X s.heap (.str (S T)) z) (hT:T.length<=1000) (hV: ∃c∈T,vf c=ai) (Bw:j6 A base outer s.heap):
  aC (aI mJ w) A (ft (.ref 290) [.ref a,u,z]) (λz z=>False) (uZ base outer w5 s.heap s) s:=by
 refine y7 (K:=λz=>True) (ns:=["self","_name","_value","_params"]) (qs:=[.raw (.ref a),.str (S nm),.str (S T),.raw (.ref s.heap.objs.size)]) (B0.defAt (D6 _)) r3.lim lx ?_ (wh (by kernel_rfl)) Bw (λUa L k z lx1 B=> ?_)
 ·rw [Hn]
  have k:=m9 s {cls:=.type "dict",data:=.dict #[]} s.toks
  exact ae (wpAny_alloc (aj ⟨k,trivial,_,rfl,mR.cons pi (mR.cons (ru.keep (mN k)) (mR.cons (rz.keep (mN k)) (mR.cons pi mR.nil)))⟩))
 ·have G:Gd w 2 (m5 rC 290 A X [] Ua.heap L):=⟨B0.keep k,hO,r3.deeper _,rfl,rfl,rfl⟩
  refine C0 (I':=λh=> ∃D,In ((m5 rC 290 A X [] Ua.heap L).addOwn D) (("parts",.raw (.ref D))::qr ["self","_name","_value","_params"] [.raw (.ref a),.str (S nm),.str (S T),.raw (.ref s.heap.objs.size)]) [(D,[])] h) (zb λP gP nP=>sO λh i=>⟨rfl,P,i⟩) (.mk λUd uu=>eE uu λP Ui=> ?_)
  have GP:=G.addOwn P
  have BP:=B.addOwn (D:=P)
  have t':oX ((m5 rC 290 A X [] Ua.heap L).addOwn P).g a d D:=t.keep k
  refine wg.run (c:=(m5 rC 290 A X [] Ua.heap L).addOwn P) (I:=In ((m5 rC 290 A X [] Ua.heap L).addOwn P) (("parts",.raw (.ref P))::qr ["self","_name","_value","_params"] [.raw (.ref a),.str (S nm),.str (S T),.raw (.ref s.heap.objs.size)]) [(P,[])]) ?_ Ud Ui
  refine zR ai (m8 (p:=.str (S T)) (q:=.none) ?_ xd (vq FJ)) (λz=> ?_) (λe=>by exact rI e)
  ·walk_at "ev"
  refine Es (JL (ps:=[.str (S T)]) (ks:=[("name",.bool false)]) GP BP (DE (by walk_at "ev") t') (λz z t=>t) (λz z z uu k=>rU uu λd D t=>⟨d,D,t.keep k⟩) (by kernel_rfl) (zO _).e (by kernel_rfl) (by kernel_rfl) (mM ?_ mP) (yf sN) ?_)
  ·walk_at "ev"
  ·intro a' Uk vs us Us lx₃ Ut ru₃ Bw₃
   refine nu (sW Ut) λx v Ub rx rv=> ?_;obtain rfl:=Ub
   subst rx
   exact Il GP.room (GP.inBase _ Us.1) (GP.offX Us.1) lx₃ ⟨_,rfl⟩ rv ru₃ hT hV Bw₃
end
section
variable {w:au} {base:aW} {outer:List Env} {m:Str} {c:Sc} {σ:m7} {Λ:List (aF×List PV)}
theorem KE {s:aq}
  (UR:A.depth<dC) (hlim:s.heap.NoLimit) (lx:oj X s.heap) (ho:s.heap.get? f=aa (jd name qual params body scope clos pm c' Wt)) (hcd:s.heap.CodeRec (.ref c') qual)
  (Uv:ey (kla_fn name qual params body scope clos pm (.ref c') Wt) ⟨[],[]⟩=bG []) (Ww: ∀x∈scope.names,x.2≠ .cell)
  (hσ: ∀x p,σ.lookup x=aa p->scope.names.lookup x=aa .free/\(x==("__classdict__":Str))=false/\ ∃b v,clos.lookup x=aa b/\s.heap.IsCell b (aa v)/\mV X s.heap p v)
  (hcob: ∀x b,clos.lookup x=aa b-> ∃v,s.heap.IsCell b v) (Bw:j6 A base outer s.heap)
  (h: ∀L,sQ ⟨envX qual scope L f (.ref c') clos,A.deeper (envX qual scope L f (.ref c') clos),s.heap,[L],X⟩ base outer->KI mJ w ⟨envX qual scope L f (.ref c') clos,A.deeper (envX qual scope L f (.ref c') clos),s.heap,[L],X⟩ σ [] base outer m body)
  (hco:autoParam (scope.isCoroutine=false) X1) (Xu:autoParam (scope.isGenerator=false) X1) (hk:autoParam (scope.kind= .function) X1):
  aC (aI mJ w) A (ft (.ref f) []) (λz z=>False) (uZ base outer m s.heap s) s:=by
 refine eo (kla_callFunE UR ho rfl hco Xu rfl hcd ?_)
 rw [Uv]
 refine aj (wpAny_newFunctionEnv Ww (λz h=>nomatch h) (λUl hns XS=>⟨hlim.fresh _ XS,?_⟩) hk)
 show gx _ _ (.expr body (envX qual scope s.heap.objs.size f (.ref c') clos)) _ _
 have VI:m4 s.heap Ul:=λb o e=>XS.extBut b o (dj (aR e)) (aO _ e)
 have hL:s.heap.get? s.heap.objs.size=az:=nM _
 have B:sQ ⟨envX qual scope s.heap.objs.size f (.ref c') clos,A.deeper (envX qual scope s.heap.objs.size f (.ref c') clos),s.heap,[s.heap.objs.size],X⟩ base outer:={
  stack:=fH Bw.stack
  stays:=Bw.stays
  frames:=Bw.frames
  frame:=rfl
  fn:=hk
  fresh:=by
   show base.get? s.heap.objs.size=az
   cases hq:base.get? s.heap.objs.size with
   |none=>rfl
   |some o=>have:=Bw.stays _ _ hq;rw [hL] at this;cases this}
 have i:In ⟨envX qual scope s.heap.objs.size f (.ref c') clos,A.deeper (envX qual scope s.heap.objs.size f (.ref c') clos),s.heap,[s.heap.objs.size],X⟩ σ [] Ul:={
  keep:=VI
  fresh:=λa ha=>by rw [ak.mp ha];exact hL
  live:=λa ha=>by rw [ak.mp ha];refine wK hns λo z z e z=> ?_;exact ⟨o,e⟩
  liveX:=lx.keep VI
  locOwn:=.head _
  loc:=⟨_,hns,λx p hx e=>by
   have:=(hσ x p e).1
   have hx:scope.names.lookup x=aa .local:=hx
   rw [this] at hx;cases hx⟩
  cel:=λx p z e=>by
   refine On (hσ x p e) λz z b v e1 e2 e3=> ?_
   refine ⟨b,v,e1,e2.keeps VI,mV.keep VI (e3.sub λd hd uu=>eE uu λo e=> ?_)⟩
   rcases ar.mp hd with q|q
   ·rw [ak.mp q,hL] at e;exact nE e
   ·exact q
  cob:=λx b e=>let ⟨v,q⟩:=hcob x b e;⟨v,q.keeps VI⟩
  kinds:=λx p e=>.inr (.inr ⟨(hσ x p e).1,(hσ x p e).2.1⟩)
  lists:=λz h=>nomatch h}
 refine kla_codeExpr (ab ((h _ B).run _ i) (λz z f=>f.elim) λe s' t=> ?_)
 refine Ak.leaves B t λVC fl=> ?_
 obtain ⟨⟨UE,Vz,rfl⟩,u,r⟩:=fl
 exact ⟨⟨_,_,rfl⟩,u,r⟩
theorem Sh:jT (.type "ValueError") (.type "ValueError")=bG ai:=by rw [dZ];kernel_rfl
theorem Sj:jT (.type "ValueError") (.type "BaseException")=bG ai:=by rw [dZ];kernel_rfl
theorem R4:jT (.type ((lX "ValueError").elim "type" λx=>x.metatype)) (.type "tuple")=bG false:=by
 have:((lX "ValueError").elim "type" λx=>x.metatype)="type":=by kernel_rfl
 rw [this,dZ];kernel_rfl
theorem K1 (x:jh base l e (.type "ValueError") a0 h):h.ExcAt e "ValueError" a0:=by
 refine nw x.first λoe vs h1 h2 h3 h4=> ?_
 exact ⟨oe,vs,h1,h2,h3,h4⟩
theorem Fi {s:aq} (hr:pG 1 A) (hB:ox w.params s.heap) (hB0:ox w.params base) (lx:oj X s.heap) (Bw:j6 A base outer s.heap) (Wh: ∃o fd,s.heap.get? f=aa o/\o.data= .func fd)
  (Wr: ∀(env:Env) (s':aq),m4 s.heap s'.heap->j6 (A.deeper env) base (env::outer) s'.heap->aC (aI mJ w) (A.deeper env) (ft (.ref f) []) (λz z=>False) (uZ base (env::outer) m s'.heap s') s'):
  aC (aI mJ w) A (ft (.ref 328) [.ref f]) (λv s'=>nK s s'/\base.StaysIn s'.heap/\s.heap.UpToSlots s'.heap/\ ∃tk,v= .str m tk) (λz z=>False) s:=by
 have hz:=aw
 refine eo (wE (M:=[]) (X:=X) (K:=λz=>True) (ns:=["attempt"]) (qs:=[.raw (.ref f)]) (Λ:=[]) (hB.defAt (RR _)) hr.lim lx (λz h=>nomatch h) (λz h=>nomatch h) ?_ (λz h=>nomatch h) (wh (by kernel_rfl)) λL Ua Ud Uc z Ue z hL Ui=> ?_)
 ·have hb:ey qH ⟨[.ref f],[]⟩=bG ((["attempt"]:List Str).zip [.ref f]):=by kernel_rfl!
  rw [hb]
  exact aj ⟨mU _,trivial,_,rfl,mR.cons pi mR.nil⟩
 have Vy:In (m5 qH 328 A X [] Ua.heap L) (qr ["attempt"] [.raw (.ref f)]) [] Ud.heap:=Ui
 clear Ui
 have hbL:base.get? L=az:=by
  cases hq:base.get? L with
  |none=>rfl
  |some o=>rw [mN Uc _ _ (Bw.stays _ _ hq)] at hL;exact tJ hL
 have hsL:s.heap.get? L=az:=by
  cases hq:s.heap.get? L with
  |none=>rfl
  |some o=>rw [mN Uc _ _ hq] at hL;exact tJ hL
 have B:sQ (m5 qH 328 A X [] Ua.heap L) base outer:={
  stack:=fH Bw.stack
  stays:=λx o e=>mN Uc x o (Bw.stays x o e)
  frames:=Bw.frames.of_keeps λx o e z=>⟨o,mN Uc x o e,rfl⟩
  frame:=rfl
  fn:=rfl
  fresh:=hbL}
 have hu:(A.deeper (bf qH L 328)).units+2<fw:=by have:=(hr.deeper (bf qH L 328)).2.2;exact (mK (.i (.b (.a (.a xA (.m 10 xJ)) xP) xB) (.b (.a xA xM) xB)) [_,_]) this
 have G:Gd w 0 (m5 qH 328 A X [] Ua.heap L)->True:=λz=>trivial
 show aC (aI mJ w) (A.deeper (bf qH L 328)) (iB (n7 (nV 49)) (bf qH L 328)) _ _ Ud
 refine ae (wpAny_Try_except ?_)
 have hat: ∀p,Ev mJ w (fs (m5 qH 328 A X [] Ua.heap L) (qr ["attempt"] [.raw (.ref f)]) []) (.Name "attempt" p) (.raw (.ref f)):=λp=>by walk_at "ev"
 refine ae (fM (cm (ab ((hat _).run Ud Vy) (λv Uk uu=>eA uu λUm Ut=> ?_) λz z e=>e.elim)) (by rfl) (by rfl))
 subst Ut
 have Us:=Vy.mono (mN Um)
 have k03:=mO Uc (mO Ue Um)
 refine o6 Wh λo fd ho hd=> ?_
 refine nQ (wx ⟨rE (mN k03 _ _ ho) hd,ab (Wr (bf qH L 328) Uk (mN k03) (B.below (wO.of Us))) (λz z f=>f.elim) λe Uw fl=> ?_⟩)
 refine Ll fl ?_;clear fl;intro VM u₄ a t tk Ub fl ta;obtain rfl:=Ub
 have us:s.heap.UpToSlots Uw.heap:=(cR (mN k03)).trans u₄
 refine mX Us.loc λm₃ n₃ z=> ?_
 refine wpAny_looks_onW B.stack B.frame fl λVn hd₅ XD=> ?_
 refine wpAny_landsW hd₅ λh₆ fl6 XA=> ?_
 have ta₆:=(ta.of_slots XD).of_slots XA
 have n₆:h₆.Ns L m₃:=((u₄.trans XD).trans XA).ns n₃
 have us₆:=(us.trans XD).trans XA
 have V2: ∀h,base.StaysIn h->(∃m,h.Ns L m)->In ⟨bf qH L 328,(A.deeper (bf qH L 328)).mark (aa (.ref a)),base,[L],[]⟩ [] [] h:=λh k uu=>eE uu λm' n=>{
  keep:=k
  fresh:=λb hb=>by rw [ak.mp hb];exact hbL
  live:=λb hb=>by rw [ak.mp hb];refine wK n λo z z e z=> ?_;exact ⟨o,e⟩
  liveX:=λz h=>nomatch h
  locOwn:=.head _
  loc:=⟨m',n,λx p hx e=>by exact nE e⟩
  cel:=λx p z e=>by exact nE e
  cob:=λx b e=>by exact nE e
  kinds:=λx p e=>by exact nE e
  lists:=λz h=>nomatch h}
 have Wp:=V2 h₆ fl6.1 ⟨_,n₆⟩
 have bt: ∀{σ:m7} (p:Pos) (x:Str) (T:String),l8 (KB w.params) bn x=aa az->ix x=aa (.type T)->x∈v0->(bf qH L 328).kindOf x=aa .globalImplicit->(x==("__debug__":Str))=false->
   Ev mJ w (fs ⟨bf qH L 328,(A.deeper (bf qH L 328)).mark (aa (.ref a)),base,[L],[]⟩ σ []) (.Name x p) (.raw (.type T)):=
  λp x T e hb hm hx hd=>JK rfl hx rfl rfl (λh i=>(hB0.keep i.keep).bltIs e hm hb) hd
 refine wpAny_handleBy_builtin_as (X:="ValueError") (T:="ValueError") (b:=ai) Sj R4 Sh ?_
 refine ab ((bt (σ:=[]) _ "ValueError" "ValueError" (by kernel_rfl) (by kernel_rfl) (by decide+kernel) rfl (by decide+kernel)).run _ Wp) (λv WW uu=>eA uu λUV XI=> ?_) λz z e=>e.elim
 subst XI
 refine o6 UV ?_;clear UV;intro h₇ t₇ Ub UV;obtain rfl:=Ub
 refine mX fl6.there λoe he W7=> ?_
 refine ⟨rfl,⟨oe,UV _ _ he,W7⟩,?_⟩
 rw [if_pos rfl]
 have fl₇:jh base (bf qH L 328::outer) a (.type "ValueError") (.ref t) h₇:=by
  refine z6 fl6 λf1 f2 f3 oe vs T oT ts e1 e2 e3 e4 e5 e6 e7 e8 e9=> ?_
  exact ⟨λb o e=>UV _ _ (f1 b o e),f2,f3.of_keeps λb o e z=>⟨o,UV _ _ e,rfl⟩,oe,vs,T,oT,ts,UV _ _ e1,e2,e3,e4,e5,e6,UV _ _ e7,e8,e9⟩
 refine lands_againW fl₇ λh₈ fl8 Xg=> ?_
 have ta8:=(ta₆.keeps UV).of_slots Xg
 have Xy:h₈.Ns L m₃:=Xg.ns (n₆.keeps UV)
 have us₈:=(us₆.trans (cR UV)).trans Xg
 have ea8:=K1 fl8
 have haL:a≠L:=λq=>by
  obtain ⟨o,vs,e1,_,e2,_⟩:=ea8
  obtain ⟨o',es,ep,e3,e4,_⟩:=Xy
  rw [q,e3] at e1;obtain rfl:=am e1;rw [e4] at e2;cases e2
 have htL:t≠L:=λq=>by
  obtain ⟨o,n,e1,_,e2⟩:=ta8
  obtain ⟨o',es,ep,e3,e4,_⟩:=Xy
  rw [q,e3] at e1;obtain rfl:=am e1;rw [e4] at e2;cases e2
 refine iO rfl Xy (λWs n₉ sb9=> ?_) (by rfl)
 have st9:base.StaysIn Ws:=λb o e=>by
  rw [sb9.2 b (λq=>by rw [q] at e;have:=e.symm.trans hbL;exact tJ this)]
  exact fl8.1 b o e
 have us₉:s.heap.UpToSlots Ws:=λb o e nv=>by
  obtain ⟨sl,e'⟩:=us₈ b o e nv
  refine ⟨sl,?_⟩
  rw [sb9.2 b (λq=>by rw [q] at e;have:=e.symm.trans hsL;exact tJ this)]
  exact e'
 have ea₉:Ws.ExcAt a "ValueError" (.ref t):=let ⟨o,vs,e1,r⟩:=ea8;⟨o,vs,(sb9.2 a haL).trans e1,r⟩
 have ta₉:Ws.TupAt t [.str m tk]:=let ⟨o,n,e1,r⟩:=ta8;⟨o,n,(sb9.2 t htL).trans e1,r⟩
 have i₉:=V2 Ws st9 ⟨_,n₉⟩
 refine ae (jM (cm (ab ((bt (σ:=[]) _ "str" "str" (by kernel_rfl) (by kernel_rfl) (by decide+kernel) rfl (by decide+kernel)).run _ i₉) (λv s₁₀ uu=>eA uu λUM r10=> ?_) λz z e=>e.elim)))
 subst r10
 refine o6 UM ?_;clear UM;intro h₁₀ t₁₀ Ub UM;obtain rfl:=Ub
 have n10:=n₉.keeps UM
 refine nQ (qv (cB (jC (wpAny_loadName_local rfl rfl n10 (v:=.ref a) (by rfl) (cG ?_)) (by decide+kernel)) (by rfl)) (by rfl))
 refine ⟨um,?_⟩
 refine P.str_of_exc_one F.excStr_ValueError (by show (A.deeper (bf qH L 328)).units+2<fw;exact hu) (let ⟨o,vs,e1,r⟩:=ea₉;⟨o,vs,UM _ _ e1,r⟩) (ta₉.keeps UM) ?_
 refine aj ?_
 refine wpAny_nameGoes rfl n10 (by rfl) λVZ m₁₁ n₁₁ sb11=> ?_
 refine aj ?_
 refine ⟨?_,?_,?_,tk,rfl⟩
 ·refine o6 k03 ?_;clear k03;intro Ul Vo Ub _;obtain rfl:=Ub
  refine rU VM ?_;clear VM;intro Vm t₄ Ub;obtain rfl:=Ub
  exact ⟨_,_,rfl⟩
 ·intro b o e
  show VZ.get? b=aa o
  rw [sb11.2 b (λq=>by rw [q] at e;have:=e.symm.trans hbL;exact tJ this)]
  exact UM _ _ (st9 b o e)
 ·intro b o e nv
  refine eE (us₉ b o e nv) λsl e'=> ?_
  refine ⟨sl,?_⟩
  show VZ.get? b=_
  rw [sb11.2 b (λq=>by rw [q] at e;have:=e.symm.trans hsL;exact tJ this)]
  exact UM _ _ e'
end
open Builtin.Str in
theorem JG (l:List Nat) (i:Nat):(S l).cps.getD i 0=l.getD i 0:=by simp [S,Array.getD,List.getD];split<;>simp_all
open Builtin.Str in
theorem JQ (l:List Nat) (i:Nat):(S l).cps[i]? =l[i]? :=by simp [S]
noncomputable def jn (Vv:List Nat):List (List Nat)->List Nat
 |[]=>[]
 |[x]=>x
 |x::y::r=>x++Vv++jn Vv (y::r)
theorem xV (Vv:List Nat): ∀ls:List (List Nat),(Txt.join (S Vv) (ls.map S)).cps.toList=jn Vv ls:=by
 intro ls
 show (kd (S Vv) (ls.map S)).cps.toList=_
 rw [ka]
 induction ls with
 |nil=>rfl
 |cons x r ih=>
  cases r with
  |nil=>simp [jp,jn,S]
  |cons y r=>
   have:jp (S Vv) ((x::y::r).map S)=S x++S Vv++jp (S Vv) ((y::r).map S):=rfl
   rw [this,Str.cps_append,lu,ih,Str.cps_append]
   simp [S,jn]
theorem zX (Vv:List Nat): ∀ls:List (List Nat),jn Vv (ls++[[]])=ls.flatMap (· ++Vv)
 |[]=>rfl
 |[x]=>by simp [jn]
 |x::y::r=>by
  have:=zX Vv (y::r)
  rw [bx,bx,jn,<-bx,this]
  simp
def EB (l:List Nat):Prop:= ∀c∈l,cJ c=false
def tn (b:List Nat):Prop:=b=[10]\/b=[13,10]\/b=[13]
noncomputable def x8 (b:Nat):Nat->List (List Nat)->List (Nat×Nat×Nat)
 |_,[]=>[]
 |p,l::r=>(p,p+l.length,p+l.length+b)::x8 b (p+l.length+b) r
open StrLaws in
theorem zF (s:Str): ∀(n a:Nat) (st:LsSt),(∀i,a<=i->i<a+n->i<st.2\/cJ (s.cps.getD i 0)=false)->(iC (m:=Id) (fc a n) st (lsBody s)).run=st
 |0,a,st,_=>rfl
 |n+1,a,(u,v),h=>by
  rw [List.range'_succ,cF]
  have:(decide (v<=a)&&cJ (s.cps.getD a 0))=false:=by
   rcases h a (aN _) (by exact mK (.b xA (.a xA (.a xB xI))) [_,_]) with h|h
   ·have h':a<v:=h
    rw [decide_eq_false (by exact (mK (.i (.b xB xA) (.n (.l xA xB))) [_,_]) h)];rfl
   ·rw [h,iq]
  unfold lsBody
  simp only [this,a9,if_false]
  exact zF s n (a+1) (u,v) λi h1 h2=>h i (by exact (mK (.i (.l (.a xA xI) xB) (.l xA xB)) [_,_]) h1) (by exact (mK (.i (.b xA (.a (.a xB xI) xC)) (.b xA (.a xB (.a xC xI)))) [_,_,_]) h2)
open StrLaws in
theorem Rr (s:Str) (a:Nat) (u:Array (Nat×Nat×Nat)) (v:Nat) (h:v<=a) (hb:cJ (s.cps.getD a 0)=ai):(iC (m:=Id) (fc a 1) ((u,v):LsSt) (lsBody s)).run=(u.push (v,a,lsNext s a),lsNext s a):=by
 rw [show fc a 1=[a] from rfl,cF]
 unfold lsBody
 simp only [decide_eq_true h,hb,Bool.and_self,if_true]
 rfl
theorem ua {α β:Type} (l r:List α) (st:β) (f:α->β->Id (ForInStep β)) (hf: ∀a b,∃c,f a b=bG (.yield c)):(iC (m:=Id) (l++r) st f).run=(iC (m:=Id) r (iC (m:=Id) l st f).run f).run:=by
 induction l generalizing st with
 |nil=>rfl
 |cons a l ih=>
  refine eE (hf a st) λc e=> ?_
  rw [bx,cF,cF,e]
  exact ih c
open StrLaws in
theorem AS (s:Str) (a:Nat) (b:LsSt): ∃c,lsBody s a b=bG (.yield c):=by
 unfold lsBody;split<;>exact ⟨_,rfl⟩
theorem v8 (P R:List Nat) (i:Nat) (h:P.length<=i):(P++R).getD i 0=R.getD (i - P.length) 0:=by
 rw [aZ,aZ,jS h]
theorem yh {l:List Nat} (h:i<l.length):l.getD i 0∈l:=by
 rw [aZ,aA h];exact dn h
theorem zu (P R:List Nat) (i:Nat) (h:i<P.length):(P++R).getD i 0=P.getD i 0:=by
 rw [aZ,aZ,List.getElem?_append_left h]
open StrLaws in
theorem Nn {b:List Nat} (hb:tn b): ∀(ls:List (List Nat)) (P:List Nat) (u:Array (Nat×Nat×Nat)),(∀l∈ls,EB l)->
  (iC (m:=Id) (fc P.length (ls.flatMap (· ++b)).length) ((u,P.length):LsSt) (lsBody (S (P++ls.flatMap (· ++b))))).run=(u++(x8 b.length P.length ls).toArray,P.length+(ls.flatMap (· ++b)).length)
 |[],P,u,_=>by simp [x8]
 |l::r,P,u,h=>by
  have V3:1<=b.length/\b.length<=2:=by rcases hb with rfl|rfl|rfl<;>decide
  have hl:=h l (.head _)
  have ih:=Nn hb r (P++l++b) (u.push (P.length,P.length+l.length,P.length+l.length+b.length)) λx hx=>h x (.tail _ hx)
  have eP:P++(l::r).flatMap (· ++b)=P++l++b++r.flatMap (· ++b):=by simp
  rw [eP]
  have eL:((l::r).flatMap (· ++b)).length=l.length+(1+((b.length - 1)+(r.flatMap (· ++b)).length)):=by simp;exact (mK (.i (.l xI xA) (.e (.a xA xB) (.a xI (.a (.s xA xI) xB)))) [_,_]) V3.1
  rw [eL,<-dG,<-dG,<-dG,ua _ _ _ _ (AS _),ua _ _ _ _ (AS _),ua _ _ _ _ (AS _)]
  have eT:(P++l++b).length=P.length+l.length+b.length:=by simp;exact mK (.e (.a xA (.a xB xC)) (.a (.a xA xB) xC)) [_,_,_]
  generalize hT:r.flatMap (· ++b)=T at*
  have c0: ∀i,(S (P++l++b++T)).cps.getD i 0=(P++l++b++T).getD i 0:=JG _
  have cl: ∀i,P.length<=i->i<P.length+l.length->(P++l++b++T).getD i 0∈l:=λi h1 h2=>by
   rw [aJ,aJ,v8 _ _ _ h1,zu _ _ _ (by exact (mK (.i (.l xB xA) (.i (.b xA (.a xB xC)) (.b (.s xA xB) xC))) [_,_,_]) h1 h2)]
   exact yh (by exact (mK (.i (.l xB xA) (.i (.b xA (.a xB xC)) (.b (.s xA xB) xC))) [_,_,_]) h1 h2)
  have cb: ∀k,k<b.length->(P++l++b++T).getD (P.length+l.length+k) 0=b.getD k 0:=λk hk=>by
   rw [aJ,v8 _ _ _ (by simp),zu _ _ _ (by simp;omega)]
   congr 1;simp
  rw [zF _ l.length P.length (u,P.length) λi h1 h2=>.inr (by rw [c0];exact hl _ (cl i h1 h2))]
  have nx:lsNext (S (P++l++b++T)) (P.length+l.length)=P.length+l.length+b.length:=by
   unfold lsNext
   rw [c0,JQ,show (P++l++b++T).getD (P.length+l.length) 0=b.getD 0 0 from cb 0 (by exact (mK (.i (.l xI xA) (.b xJ xA)) [_]) V3.1)]
   have g1:(P++l++b++T)[P.length+l.length+1]? =(b++T)[1]? :=by
    rw [aJ,jS (by simp)]
    congr 1;simp
   rw [g1]
   rcases hb with rfl|rfl|rfl
   ·rfl
   ·rfl
   ·have:T[0]? ≠aa 10:=by
     rw [<-hT]
     cases r with
     |nil=>simp
     |cons y r=>
      cases y with
      |nil=>simp
      |cons c y=>
       have:=h (c::y) (.tail _ (.head _)) c (.head _)
       simp only [bh,bx,List.getElem?_cons_zero,ne_eq,ke]
       rintro rfl
       exact absurd this (by decide)
    have e:([13]++T)[1]? =T[0]? :=rfl
    rw [e]
    have:(T[0]? ==aa 10)=false:=by simpa using this
    rw [this];rfl
  rw [Rr _ _ _ _ (by exact mK (.l xA (.a xA xB)) [_,_]) (by
   rw [c0,show (P++l++b++T).getD (P.length+l.length) 0=b.getD 0 0 from cb 0 (by exact (mK (.i (.l xI xA) (.b xJ xA)) [_]) V3.1)]
   rcases hb with rfl|rfl|rfl<;>decide),nx]
  rw [zF _ (b.length - 1) (P.length+l.length+1) (u.push (P.length,P.length+l.length,P.length+l.length+b.length),P.length+l.length+b.length) λi h1 h2=>.inl (by exact (mK (.i (.l xI xD) (.i (.b xA (.a (.a (.a xB xC) xI) (.s xD xI))) (.b xA (.a (.a xB xC) xD)))) [_,_,_,_]) V3.1 h2)]
  rw [eT] at ih
  rw [show P.length+l.length+1+(b.length - 1)=P.length+l.length+b.length by exact (mK (.i (.l xI xC) (.e (.a (.a (.a xA xB) xI) (.s xC xI)) (.a (.a xA xB) xC))) [_,_,_]) V3.1,ih]
  simp only [x8]
  refine eU ?_ ?_
  ·simp
  ·exact (mK (.i (.l xI xC) (.e (.a (.a (.a xA xB) xC) xD) (.a xA (.a xB (.a xI (.a (.s xC xI) xD)))))) [_,_,_,_]) V3.1
theorem CY: ∀(ls:List (List Nat)) (P:List Nat),((x8 b.length P.length ls).map λp=>strSub (S (P++ls.flatMap (· ++b))) p.1 p.2.1)=ls.map S
 |[],_=>rfl
 |l::r,P=>by
  have ih:=CY (b:=b) r (P++l++b)
  have eP:P++(l::r).flatMap (· ++b)=P++l++b++r.flatMap (· ++b):=by simp
  have eT:(P++l++b).length=P.length+l.length+b.length:=by simp;exact mK (.e (.a xA (.a xB xC)) (.a (.a xA xB) xC)) [_,_,_]
  rw [eP,x8,ba,ba]
  rw [eT] at ih
  rw [ih]
  congr 1
  apply iw
  apply dO.mp
  rw [dq]
  simp [S]
theorem DC (hb:tn b) {ls:List (List Nat)} (h: ∀l∈ls,EB l):Txt.lines (S (ls.flatMap (· ++b)))=ls.map S:=by
 have hs:jI (S (ls.flatMap (· ++b)))=x8 b.length 0 ls:=by
  rw [StrLaws.ls_eq]
  have:=Nn hb ls [] #[] h
  simp only [bQ,dD] at this
  rw [m6,this]
  unfold jN
  rw [if_neg (by simp [m6])]
  simp
 have hc:=CY (b:=b) ls []
 simp only [bQ,dD] at hc
 have hl:kr (S (ls.flatMap (· ++b)))=ls.map S:=by
  rw [<-hc]
  unfold kr lineCuts
  rw [hs,aB]
  apply aV
  intro ⟨i,j,k⟩ _
  rfl
 unfold Txt.lines
 split
 ·rename_i e
  have e:=gF e
  rw [<-hl]
  unfold kr
  rw [e]
  simp only [ba,gX]
  congr 1
  apply iw
  apply dO.mp
  rw [dq,m6,g5,eG]
  have:(S (ls.flatMap (· ++b))).cps.toList=ls.flatMap (· ++b):=by simp [S]
  rw [this]
  exact eJ.symm
 ·exact hl
open StrLaws in
theorem yW (s x:Str) (n m a:Nat) (b:Array Nat×Nat): ∃c,occBody s x n m a b=bG (.yield c):=by
 unfold occBody;split<;>exact ⟨_,rfl⟩
open StrLaws in
theorem yB (s x:Str) (hi lim:Nat): ∀(n a:Nat) (st:Array Nat×Nat),(∀i,a<=i->i<a+n->i<st.2\/hi<i+x.length\/eR s x i=false)->(iC (m:=Id) (fc a n) st (occBody s x hi lim)).run=st
 |0,a,st,_=>rfl
 |n+1,a,(u,v),h=>by
  rw [List.range'_succ,cF]
  have: ¬(((u.size<lim/\v<=a)/\a+x.length<=hi)/\eR s x a=ai):=by
   rintro ⟨⟨⟨_,h1⟩,h2⟩,h3⟩
   rcases h a (aN _) (by exact mK (.b xA (.a xA (.a xB xI))) [_,_]) with h|h|h
   ·have h':a<v:=h;exact (mK (.i (.l xA xB) (.n (.b xB xA))) [_,_]) h1 h
   ·exact (mK (.i (.l (.a xA xB) xC) (.n (.b xC (.a xA xB)))) [_,_,_]) h2 h
   ·rw [h] at h3;exact oW h3
  unfold occBody
  simp only [this,if_false]
  exact yB s x hi lim n (a+1) (u,v) λi h1 h2=>h i (by exact (mK (.i (.l (.a xA xI) xB) (.l xA xB)) [_,_]) h1) (by exact (mK (.i (.b xA (.a (.a xB xI) xC)) (.b xA (.a xB (.a xC xI)))) [_,_,_]) h2)
noncomputable def vb (b:Nat):Nat->List (List Nat)->List Nat
 |_,[]=>[]
 |_,[_]=>[]
 |p,l::y::r=>(p+l.length)::vb b (p+l.length+b) (y::r)
theorem yl (L b:List Nat) (i:Nat):eR (S L) (S b) i=((L.drop i).take b.length==b):=by
 rw [StrLaws.subAt_eq];simp [m6,S]
theorem El (e:b=h::t) (hi:i<L.length) (hn:L.getD i 0≠h):eR (S L) (S b) i=false:=by
 rw [yl,e,gw hi,aU,eN]
 rw [aZ,aA hi] at hn
 have hn:L[i]≠h:=hn
 rw [beq_eq_false_iff_ne]
 intro q
 exact hn (List.cons.inj q).1
open StrLaws in
theorem Jo {b:List Nat} {c:Nat} {t:List Nat} (e:b=c::t) (lim:Nat): ∀(ls:List (List Nat)) (P:List Nat) (u:Array Nat) (y:List Nat),(∀l∈y::ls,c∉l)->u.size+ls.length<=lim->
  (iC (m:=Id) (fc P.length ((jn b (y::ls)).length+1)) ((u,P.length):Array Nat×Nat) (occBody (S (P++jn b (y::ls))) (S b) (P++jn b (y::ls)).length lim)).run.1=u++(vb b.length P.length (y::ls)).toArray
 |[],P,u,y,h,hz=>by
  have V3:1<=b.length:=by rw [e];simp
  rw [yB _ _ _ _ _ _ _ ?h]
  case h=>
   intro i h1 h2
   have h2':i<P.length+(y.length+1):=by simpa [jn] using h2
   rcases dI i (P.length+y.length) with q|q
   ·refine .inr (.inr (El e (by simp [jn];omega) ?_))
    rw [v8 _ _ _ h1]
    intro q'
    apply h y (.head _)
    rw [<-q']
    exact yh (by exact (mK (.i (.l xB xA) (.i (.b xA (.a xB xC)) (.b (.s xA xB) xC))) [_,_,_]) h1 q)
   ·refine .inr (.inl ?_)
    rw [m6];simp [jn];exact (mK (.i (.l xI xD) (.i (.l (.a xA xB) xC) (.b (.a xA xB) (.a xC xD)))) [_,_,_,_]) V3 q
  simp [vb]
 |z::ls,P,u,y,h,hz=>by
  have V3:1<=b.length:=by rw [e];simp
  have ih:=Jo e lim ls (P++y++b) (u.push (P.length+y.length)) z (λl hl=>h l (.tail _ hl)) (by simp at hz ⊢;exact (mK (.i (.l (.a xA (.a xB xI)) xC) (.l (.a (.a xA xI) xB) xC)) [_,_,_]) hz)
  have eP:P++jn b (y::z::ls)=P++y++b++jn b (z::ls):=by simp [jn]
  rw [eP]
  have eL:(jn b (y::z::ls)).length+1=y.length+(1+((b.length - 1)+((jn b (z::ls)).length+1))):=by simp [jn];exact (mK (.i (.l xI xB) (.e (.a (.a xA (.a xB xC)) xI) (.a xA (.a xI (.a (.s xB xI) (.a xC xI)))))) [_,_,_]) V3
  rw [eL,<-dG,<-dG,<-dG,ua _ _ _ _ (yW _ _ _ _),ua _ _ _ _ (yW _ _ _ _),ua _ _ _ _ (yW _ _ _ _)]
  have eT:(P++y++b).length=P.length+y.length+b.length:=by simp;exact mK (.e (.a xA (.a xB xC)) (.a (.a xA xB) xC)) [_,_,_]
  generalize hT:jn b (z::ls)=T at*
  rw [yB _ _ _ _ y.length P.length (u,P.length) ?h1]
  ·have WQ:(iC (m:=Id) (fc (P.length+y.length) 1) ((u,P.length):Array Nat×Nat) (occBody (S (P++y++b++T)) (S b) (P++y++b++T).length lim)).run=(u.push (P.length+y.length),P.length+y.length+b.length):=by
    rw [show fc (P.length+y.length) 1=[P.length+y.length] from rfl,cF]
    have c1:((u.size<lim/\P.length<=P.length+y.length)/\P.length+y.length+(S b).length<=(P++y++b++T).length)/\eR (S (P++y++b++T)) (S b) (P.length+y.length)=ai:=by
     refine ⟨⟨⟨by simp at hz;exact (mK (.i (.l (.a xA (.a xC xI)) xB) (.b xA xB)) [_,_,_]) hz,by exact mK (.l xA (.a xA xB)) [_,_]⟩,by rw [m6];simp;exact mK (.l (.a (.a xA xB) xC) (.a xA (.a xB (.a xC xD)))) [_,_,_,_]⟩,?_⟩
     rw [yl,aJ,List.drop_append_of_le_length (by simp),fj (by simp),dD,List.take_append_of_le_length (aN _),eJ]
     exact beq_self_eq_true b
    unfold occBody
    simp only [c1,and_self,if_true]
    rw [m6]
    rfl
   rw [eT] at ih
   rw [WQ,yB _ _ _ _ (b.length - 1) (P.length+y.length+1) (u.push (P.length+y.length),P.length+y.length+b.length) (λi h1 h2=>.inl (by exact (mK (.i (.l xI xD) (.i (.b xA (.a (.a (.a xB xC) xI) (.s xD xI))) (.b xA (.a (.a xB xC) xD)))) [_,_,_,_]) V3 h2)),show P.length+y.length+1+(b.length - 1)=P.length+y.length+b.length by exact (mK (.i (.l xI xC) (.e (.a (.a (.a xA xB) xI) (.s xC xI)) (.a (.a xA xB) xC))) [_,_,_]) V3,ih]
   simp [vb]
  case h1=>
   intro i h1 h2
   refine .inr (.inr (El e (by simp;exact (mK (.i (.b xA (.a xB xC)) (.b xA (.a xB (.a xC (.a xD xE))))) [_,_,_,_,_]) h2) ?_))
   rw [aJ,aJ,v8 _ _ _ h1,zu _ _ _ (by exact (mK (.i (.l xB xA) (.i (.b xA (.a xB xC)) (.b (.s xA xB) xC))) [_,_,_]) h1 h2)]
   intro q'
   apply h y (.head _)
   rw [<-q']
   exact yh (by exact (mK (.i (.l xB xA) (.i (.b xA (.a xB xC)) (.b (.s xA xB) xC))) [_,_,_]) h1 h2)
theorem Df: ∀(ls:List (List Nat)) (P y:List Nat),iQ (S (P++jn b (y::ls))) b.length P.length (vb b.length P.length (y::ls))=(y::ls).map S
 |[],P,y=>by
  simp only [vb,iQ,ba,gX]
  congr 1
  apply iw
  apply dO.mp
  rw [dq,m6]
  simp [S,jn]
 |z::ls,P,y=>by
  have ih:=Df (b:=b) ls (P++y++b) z
  have eP:P++jn b (y::z::ls)=P++y++b++jn b (z::ls):=by simp [jn]
  have eT:(P++y++b).length=P.length+y.length+b.length:=by simp;exact mK (.e (.a xA (.a xB xC)) (.a (.a xA xB) xC)) [_,_,_]
  rw [eT] at ih
  rw [eP,vb,iQ,ih,ba]
  congr 1
  apply iw
  apply dO.mp
  rw [dq]
  simp [S]
theorem J8 (h:(vb b p (y::ls)).isEmpty=ai):ls=[]:=by
 cases ls with
 |nil=>rfl
 |cons z ls=>simp [vb] at h
theorem CT (b:List Nat): ∀(ls:List (List Nat)) (y:List Nat),ls.length<=(jn b (y::ls)).length\/b=[]
 |[],y=>.inl (cx _)
 |z::ls,y=>by
  rcases CT b ls z with h|h
  ·cases b with
   |nil=>exact .inr rfl
   |cons c t=>left;simp [jn] at h ⊢;exact (mK (.i (.l xA xD) (.l (.a xA xI) (.a xB (.a (.a xC xD) xI)))) [_,_,_,_]) h
  ·exact .inr h
theorem Gq (x:Str):1<=dB x:=by unfold dB;split;decide;split<;>decide
theorem zv (e:b=c::t) (hk: ∀d∈b,d<256) (h: ∀l∈y::ls,c∉l):Txt.split (S (jn b (y::ls))) (S b)=(y::ls).map S:=by
 have k1:dB (S b)=1:=by
  unfold dB
  rw [if_pos]
  simpa [S] using hk
 have k2:decide (dB (S (jn b (y::ls)))<dB (S b))=false:=by
  rw [k1];exact decide_eq_false (by have:=Gq (S (jn b (y::ls)));exact (mK (.i (.l xI xA) (.n (.b xA xI))) [_]) this)
 unfold Txt.split
 rw [k2,m6,m6,iM]
 have hn:ls.length<=(jn b (y::ls)).length:=(CT b ls y).resolve_right (by rw [e];exact fE _ _)
 have ho: ∀x,S (jn b (y::ls))=x->gk x (S b) 0 (jn b (y::ls)).length ((jn b (y::ls)).length+1)=vb b.length 0 (y::ls):=by
  rintro x rfl
  rw [ms]
  have:=Jo e ((jn b (y::ls)).length+1) ls [] #[] y h (by simp;exact (mK (.i (.l xA xB) (.l xA (.a xB xI))) [_,_]) hn)
  simp only [bQ,dD] at this
  rw [g5,this];simp
 rw [ho _ rfl]
 split
 ·rename_i q
  have q:=of_decide_eq_true q
  cases ls with
  |nil=>rfl
  |cons z ls=>simp [jn] at q;exact ((mK (.n (.b (.a xA (.a xB xC)) xB)) [_,_,_]) q).elim
 ·split
  ·rename_i q
   have:=J8 q
   subst this;rfl
  ·rw [StrLaws.partsBetween_eq]
   have:=Df (b:=b) ls [] y
   simpa using this
theorem ye (h:c9 c=false):Txt.rstrip (S (l++[c]))=S (l++[c]):=by
 have hs:lQ c9 false ai (S (l++[c]))=ai:=by
  unfold lQ stripLo stripHi
  simp [S,h,fJ]
 unfold Txt.rstrip Txt.stripBy
 rw [hs];rfl
noncomputable def zo:List Nat:=[46,65,66,67,68,97,98,99,100]
noncomputable def xe:List Nat:=[48,49,50,51,52,53,54,55,56,57,65,66,67,68,69,70]
def wQ:List Nat:=61::58::32::(zo++xe)
def toks (v:List Nat):List Nat:=v.flatMap pC
def vB (v:List Nat):Prop:= ∀c∈v,128<=c/\c<256
theorem xq: ∀c∈wQ,cJ c=false/\c≠10/\c≠13:=by decide+kernel
theorem EQ: ∀c∈61::xe,c9 c=false/\c≠32/\c≠9:=by decide+kernel
theorem Aw: ∀c<256,pA (c/16)∈xe/\pA (c % 16)∈xe:=by decide+kernel
theorem L3: ∀c<256,hx (pA (c/16))=ai/\hx (pA (c % 16))=ai/\16*oz (pA (c/16))+oz (pA (c % 16))=c:=by decide+kernel
theorem Jv: ∀c∈xe,c≠61:=by decide+kernel
theorem y6: ∀c∈zo,n5 c=[c]/\c≠61/\c≠58/\c<256:=by decide+kernel
theorem K4: ∀c<256,128<=c->n5 c=pC c:=by decide+kernel
theorem ty: ∀v:List Nat,(toks v).length=3*v.length
 |[]=>rfl
 |c::v=>by
  have:=ty v
  unfold toks at this ⊢
  rw [bh,af,this]
  simp [pC];exact mK (.e (.a xO (.m 3 xA)) (.m 3 (.a xA xI))) [_]
theorem s9 (c:Nat) (v:List Nat):toks (c::v)=61::pA (c/16)::pA (c % 16)::toks v:=rfl
theorem F3: ∀(v:List Nat) (i:Nat),vB v->i<3*v.length->((toks v).getD i 0=61↔i % 3=0)
 |[],i,_,h=>by simp at h
 |c::v,i,ho,h=>by
  have hc:=Aw c (ho c (.head _)).2
  rw [s9]
  match i with
  |0=>simp
  |1=>simp only [iI,lN];exact ⟨λe=>absurd e (Jv _ hc.1),λe=>absurd e (by decide)⟩
  |2=>simp only [iI,lN];exact ⟨λe=>absurd e (Jv _ hc.2),λe=>absurd e (by decide)⟩
  |i+3=>
   simp only [iI]
   rw [F3 v i (λx hx=>ho x (.tail _ hx)) (by simp at h;exact (mK (.i (.b (.a xA xO) (.m 3 (.a xB xI))) (.b xA (.m 3 xB))) [_,_]) h)]
   rw [Nat.add_mod_right]
theorem zd: ∀(j:Nat) (v:List Nat),(toks v).take (3*j)=toks (v.take j)/\(toks v).drop (3*j)=toks (v.drop j)
 |0,v=>by simp [toks]
 |j+1,[]=>by simp [toks]
 |j+1,c::v=>by
  have:=zd j v
  rw [s9,show 3*(j+1)=3*j+3 by exact mK (.e (.m 3 (.a xA xI)) (.a (.m 3 xA) xO)) [_]]
  simp only [eN,List.drop_succ_cons,s9,this,and_self]
theorem R9 (h1: ¬(w - 3 - p) % 3=0) (h2: ¬(w - 2 - p) % 3=0) (h:p+3<=w):(w - 1 - p) % 3=0:=by
 have e: ∃n,w=p+3+n:=⟨w - (p+3),by exact (mK (.i (.l (.a (.v 1) (.c 3)) (.v 0)) (.e (.v 0) (.a (.a (.v 1) (.c 3)) (.s (.v 0) (.a (.v 1) (.c 3)))))) [_,_]) h⟩
 refine eE e λn e=> ?_
 rw [show w - 3 - p=n by exact (mK (.i (.e (.v 0) (.a (.a (.v 1) (.c 3)) (.v 2))) (.e (.s (.s (.v 0) (.c 3)) (.v 1)) (.v 2))) [_,_,_]) e] at h1
 rw [show w - 2 - p=n+1 by exact (mK (.i (.e (.v 0) (.a (.a (.v 1) (.c 3)) (.v 2))) (.e (.s (.s (.v 0) (.c 2)) (.v 1)) (.a (.v 2) (.c 1)))) [_,_,_]) e] at h2
 rw [show w - 1 - p=n+2 by exact (mK (.i (.e (.v 0) (.a (.a (.v 1) (.c 3)) (.v 2))) (.e (.s (.s (.v 0) (.c 1)) (.v 1)) (.a (.v 2) (.c 2)))) [_,_,_]) e]
 exact (mK (.i (.n (.e (.e (.a (.v 0) (.c 1)) 3) (.c 0))) (.i (.n (.e (.e (.v 0) 3) (.c 0))) (.e (.e (.a (.v 0) (.c 2)) 3) (.c 0)))) [_]) h2 h1
theorem Rg (hw:12<=w) (hp:UI.length<=9) (ho:vB v) (h:w+1<=(UI++toks v).length): ∃j,j<v.length/\rk w (UI++toks v)=UI.length+3*j:=by
 have hl:=ty v
 rw [af,hl] at h
 have g: ∀i,UI.length<=i->i<w+1->((UI++toks v).getD i 0=61↔(i - UI.length) % 3=0):=λi h1 h2=>by
  rw [v8 _ _ _ h1,F3 v _ ho (by exact (mK (.i (.l (.a xD xI) (.a xB (.m 3 xC))) (.i (.l xB xA) (.i (.b xA (.a xD xI)) (.b (.s xA xB) (.m 3 xC))))) [_,_,_,_]) h h1 h2)]
 unfold rk
 have g1:=g (w - 3) (by exact (mK (.i (.l (.c 12) xB) (.i (.l xA (.c 9)) (.l xA (.s xB xO)))) [_,_]) hw hp) (by exact mK (.b (.s xA xO) (.a xA xI)) [_])
 have g2:=g (w - 2) (by exact (mK (.i (.l (.c 12) xB) (.i (.l xA (.c 9)) (.l xA (.s xB xM)))) [_,_]) hw hp) (by exact mK (.b (.s xA xM) (.a xA xI)) [_])
 split
 ·rename_i e
  have:=g1.mp e
  exact ⟨(w - 3 - UI.length)/3,by exact (mK (.i (.l (.c 12) xA) (.i (.l xB (.c 9)) (.i (.l (.a xA xI) (.a xB (.m 3 xC))) (.b (.d (.s (.s xA xO) xB) 3) xC)))) [_,_,_]) hw hp h,by exact (mK (.i (.l (.c 12) xA) (.i (.l xB (.c 9)) (.i (.e (.e (.s (.s xA xO) xB) 3) xJ) (.e (.s xA xO) (.a xB (.m 3 (.d (.s (.s xA xO) xB) 3))))))) [_,_]) hw hp this⟩
 ·rename_i e
  have e1: ¬(w - 3 - UI.length) % 3=0:=λq=>e (g1.mpr q)
  split
  ·rename_i e
   have:=g2.mp e
   exact ⟨(w - 2 - UI.length)/3,by exact (mK (.i (.l (.c 12) xA) (.i (.l xB (.c 9)) (.i (.l (.a xA xI) (.a xB (.m 3 xC))) (.b (.d (.s (.s xA xM) xB) 3) xC)))) [_,_,_]) hw hp h,by exact (mK (.i (.l (.c 12) xA) (.i (.l xB (.c 9)) (.i (.e (.e (.s (.s xA xM) xB) 3) xJ) (.e (.s xA xM) (.a xB (.m 3 (.d (.s (.s xA xM) xB) 3))))))) [_,_]) hw hp this⟩
  ·rename_i e
   have e2: ¬(w - 2 - UI.length) % 3=0:=λq=>e (g2.mpr q)
   exact ⟨(w - 1 - UI.length)/3,by exact (mK (.i (.l (.c 12) xA) (.i (.l xB (.c 9)) (.i (.l (.a xA xI) (.a xB (.m 3 xC))) (.b (.d (.s (.s xA xI) xB) 3) xC)))) [_,_,_]) hw hp h,by have e3:=R9 e1 e2 (by exact (mK (.i (.l (.c 12) (.v 1)) (.i (.l (.v 0) (.c 9)) (.l (.a (.v 0) (.c 3)) (.v 1)))) [_,_]) hw hp);exact (mK (.i (.l (.c 12) (.v 0)) (.i (.l (.v 1) (.c 9)) (.i (.e (.e (.s (.s (.v 0) (.c 1)) (.v 1)) 3) (.c 0)) (.e (.s (.v 0) (.c 1)) (.a (.v 1) (.m 3 (.d (.s (.s (.v 0) (.c 1)) (.v 1)) 3))))))) [_,_]) hw hp e3⟩
theorem wH (e t:List Nat): ∀v:List Nat,vB v->nO e (toks v++t)=v++nO e t
 |[],_=>rfl
 |c::v,h=>by
  have hc:=L3 c (h c (.head _)).2
  rw [s9,bx,bx,bx,Fa hc.1 hc.2.1,hc.2.2,wH e t v λx hx=>h x (.tail _ hx)]
  rfl
theorem yx (e t:List Nat): ∀p:List Nat,(∀c∈p,c≠61)->nO e (p++t)=p++nO e t
 |[],_=>rfl
 |c::p,h=>by
  rw [bx,yd (h c (.head _)),yx e t p λx hx=>h x (.tail _ hx)]
  rfl
theorem xW (h:vB v): ∀c∈toks v,c∈61::xe:=by
 intro c hc
 refine mX (cU.mp hc) λx h1 h2=> ?_
 have:=Aw x (h x h1).2
 simp only [pC,ao,fD,or_false] at h2
 rcases h2 with rfl|rfl|rfl
 ·exact .head _
 ·exact .tail _ this.1
 ·exact .tail _ this.2
theorem CQ (h:vB v) (hn:v≠[]): ∃q c,toks v=q++[c]/\c∈61::xe:=by
 have Uu:toks v≠[]:=by
  cases v with
  |nil=>exact absurd rfl hn
  |cons c v=>rw [s9];exact fE _ _
 exact ⟨(toks v).dropLast,(toks v).getLast Uu,(jK Uu).symm,xW h _ (List.getLast_mem Uu)⟩
structure Su (w:Nat) (r:List Nat) (ps:List (List Nat)) (out:List Nat):Prop where
 dec: ∀e,ps.flatMap (nO e)=out++e
 len: ∀p∈ps,p.length<=w
 last: ∀p∈ps,∃q c,p=q++[c]/\c∈61::xe
 chars: ∀p∈ps,∀c∈p,c∈wQ
 head: ∃p qs,ps=p::qs/\p.head? =r.head?/\ ∀q∈qs,q.head? =aa 61
theorem FG (hw:12<=w): ∀(f:Nat) (UI v:List Nat),UI.length<=9->(∀c∈UI,c≠61/\c∈wQ)->vB v->v≠[]->(UI++toks v).length<=f->Su w (UI++toks v) (rT w f (UI++toks v)) (UI++v)
 |0,UI,v,_,_,_,hn,hf=>by
  have:=ty v
  have:0<v.length:=dP.mpr hn
  rw [af] at hf
  exact ((mK (.i (.l xA (.c 9)) (.i (.l (.a xA xB) xJ) (.i (.e xB (.m 3 xC)) (.n (.b xJ xC))))) [_,_,_]) (by assumption) hf (by assumption) this).elim
 |f+1,UI,v,hp,hc,ho,hn,hf=>by
  have hl:=ty v
  have gT: ∀u:List Nat,vB u-> ∀c∈UI++toks u,c∈wQ:=λu hu c h=>by
   rcases ar.mp h with h|h
   ·exact (hc c h).2
   ·have:=xW hu c h
    rcases ao.mp this with rfl|h
    ·exact .head _
    ·exact .tail _ (.tail _ (.tail _ (aM _ h)))
  rw [rT]
  split
  ·rename_i VX
   refine mX (Rg hw hp ho VX) λj hj hk=> ?_
   have ck:=Cj w (UI++toks v) (by exact (mK (.i (.l (.c 12) xA) (.l xK xA)) [_]) hw)
   have e1:(UI++toks v).take (rk w (UI++toks v))=UI++toks (v.take j):=by
    rw [hk,List.take_append,bF (by exact mK (.l xA (.a xA (.m 3 xB))) [_,_]),show UI.length+3*j - UI.length=3*j by exact mK (.e (.s (.a xA (.m 3 xB)) xA) (.m 3 xB)) [_,_],(zd j v).1]
   have e2:(UI++toks v).drop (rk w (UI++toks v))=toks (v.drop j):=by
    rw [hk,List.drop_append,fj (by exact mK (.l xA (.a xA (.m 3 xB))) [_,_]),show UI.length+3*j - UI.length=3*j by exact mK (.e (.s (.a xA (.m 3 xB)) xA) (.m 3 xB)) [_,_],(zd j v).2,dD]
   have o1:vB (v.take j):=λc h=>ho c (List.mem_of_mem_take h)
   have o2:vB (v.drop j):=λc h=>ho c (List.mem_of_mem_drop h)
   have n2:v.drop j≠[]:=λq=>by
    have:=congrArg bj q
    rw [bH,bQ] at this;exact (mK (.i (.b xA xB) (.n (.e (.s xB xA) xJ))) [_,_]) hj this
   have ih:=FG hw f [] (v.drop j) (by simp) (λc h=>nomatch h) o2 n2 (by
    have h3:((UI++toks v).drop (rk w (UI++toks v))).length<=f:=by exact bH▸((mK (.i (.l xA (.a xC xI)) (.i (.l xI xB) (.l (.s xA xB) xC))) [_,_,_]) hf ck.1)
    rw [e2] at h3;exact h3)
   rw [dD] at ih
   rw [e1,e2]
   have hl1:(UI++toks (v.take j)).length+1<=w:=by
    have:=congrArg bj e1
    rw [dm] at this;exact (mK (.i (.l xI xC) (.i (.l xC (.s xB xI)) (.i (.e (.n xC xD) xA) (.l (.a xA xI) xB)))) [_,_,_,_]) ck.1 ck.2 this
   constructor
   ·intro e
    rw [bh,ih.dec,aJ,yx _ _ _ λc h=>(hc c h).1,wH _ _ _ o1,Dt]
    simp only [dD,bK,aJ]
    rw [<-aJ (v.take j),kZ]
   ·intro p h
    rcases ao.mp h with rfl|h
    ·exact af▸hl1
    ·exact ih.len p h
   ·intro p h
    rcases ao.mp h with rfl|h
    ·exact ⟨_,61,rfl,.head _⟩
    ·exact ih.last p h
   ·intro p h
    rcases ao.mp h with rfl|h
    ·intro c hcm
     rcases ar.mp hcm with h|h
     ·exact gT _ o1 c h
     ·exact (ak.mp h)▸(.head _)
    ·exact ih.chars p h
   ·refine nu ih.head λp qs h1 h2 h3=> ?_
    refine ⟨_,_,rfl,?_,?_⟩
    ·cases UI with
     |cons c UI=>rfl
     |nil=>
      have hj0:0<j:=by
       rw [bQ] at hk;exact (mK (.i (.e xB (.a xJ (.m 3 xA))) (.i (.l xI xB) (.b xJ xA))) [_,_]) hk ck.1
      cases v with
      |nil=>exact absurd rfl hn
      |cons c v=>
       obtain ⟨k,rfl⟩: ∃k,j=k+1:=⟨j - 1,by exact (mK (.i (.b xJ xA) (.e xA (.a (.s xA xI) xI))) [_]) hj0⟩
       simp [s9]
    ·intro q hq
     rw [h1] at hq
     rcases ao.mp hq with rfl|hq
     ·rw [h2]
      cases hd:v.drop j with
      |nil=>exact absurd hd n2
      |cons c u=>rfl
     ·exact h3 q hq
  ·rename_i hs
   constructor
   ·intro e
    have:=wH e [] v ho
    rw [bK] at this
    rw [bh,jy,bK,yx _ _ _ λc h=>(hc c h).1,this]
    simp [nO]
   ·intro p h
    exact (ak.mp h)▸((mK (.i (.n (.l (.a xB xI) xA)) (.l xA xB)) [_,_]) hs)
   ·intro p h
    rw [ak.mp h]
    refine o6 (CQ ho hn) λq c h1 h2=> ?_
    exact ⟨UI++q,c,by rw [h1,aJ],h2⟩
   ·intro p h
    exact (ak.mp h)▸(gT _ ho)
   ·exact ⟨_,[],rfl,rfl,λq h=>nomatch h⟩
noncomputable def dd (p:List Nat):List Nat:=if p.head? =aa 46 then 46::p else p
structure o7 (q:List Nat×List Nat):Prop where
 n1:q.1.length<=7
 n2:q.1≠[]
 n3: ∀c∈q.1,c∈zo
 v1:q.2.length<=4
 v2:q.2≠[]
 v3:vB q.2
def vX (q:List Nat×List Nat):List Nat:=(q.1++[58,32])++toks q.2
def rB (q:List Nat×List Nat):List Nat:=dd q.1++58::32::q.2
def KR (w:Nat) (q:List Nat×List Nat):List (List Nat):=rT w (vX q).length (vX q)
theorem J0 (hw:12<=w) (h:o7 q):Su w (vX q) (KR w q) (q.1++[58,32]++q.2):=by
 refine FG hw _ _ _ ?_ ?_ h.v3 h.v2 (aN _)
 ·have:=h.n1;simp;omega
 ·intro c hc
  rcases ar.mp hc with hc|hc
  ·exact ⟨(y6 c (h.n3 c hc)).2.1,.tail _ (.tail _ (.tail _ (ax _ (h.n3 c hc))))⟩
  ·exact (by decide+kernel: ∀c∈[58,32],c≠61/\c∈wQ) c hc
theorem R6 (hw:12<=w) (h:o7 q) (e:List Nat):((KR w q).map dd).flatMap (nO e)=rB q++e:=by
 have hp:=J0 hw h
 refine nu hp.head λp qs h1 h2 h3=> ?_
 have hd:=hp.dec e
 rw [h1] at hd ⊢
 have hq:qs.map dd=qs:=by
  conv=>rhs;rw [<-lh qs]
  apply aV
  intro x hx
  unfold dd
  rw [h3 x hx];rfl
 rw [ba,hq]
 have hh:p.head? =q.1.head?:=by
  rw [h2];unfold vX
  cases hq1:q.1 with
  |nil=>exact absurd hq1 h.n2
  |cons c r=>rfl
 unfold rB dd
 rw [hh]
 rw [bh] at hd ⊢
 split
 ·rw [yd (by decide),bx,hd]
  simp
 ·rw [hd];simp
theorem yv (Vv:List Nat) (ls:List (List Nat)):jn Vv (ls++[[],[]])=ls.flatMap (· ++Vv)++Vv:=by
 have:=zX Vv (ls++[[]])
 rw [aJ] at this
 exact this.trans (by simp)
theorem vL (l:HP):oI l=(l.map (λq:List Nat×List Nat=>q.1++58::32::q.2)++[[]]).flatMap (· ++[13,10]):=by
 unfold oI
 rw [xV]
 unfold yt
 rw [yv];simp
theorem KH {n:List Nat} (h: ∀c∈n,c∈zo):n.flatMap n5=n:=by
 induction n with
 |nil=>rfl
 |cons c n ih=>rw [bh,(y6 c (h c (.head _))).1,ih λx hx=>h x (.tail _ hx)];rfl
theorem Jw (h:vB v):v.flatMap n5=toks v:=by
 induction v with
 |nil=>rfl
 |cons c v ih=>
  have hc:=h c (.head _)
  rw [bh,K4 c hc.2 hc.1,ih λx hx=>h x (.tail _ hx)];rfl
theorem pU {α:Type} (f:α->List Nat) (b c:List α):(b++c).flatMap f=b.flatMap f++c.flatMap f:=by simp
theorem KW (h:o7 q):(q.1++58::32::q.2).flatMap n5=vX q:=by
 rw [pU,KH h.n3]
 show q.1++(n5 58++(n5 32++q.2.flatMap n5))=_
 rw [Jw h.v3,show n5 58=[58] by decide+kernel,show n5 32=[32] by decide+kernel]
 simp [vX]
theorem zg (h: ∀q∈l,o7 q):(oI l).flatMap n5=(l.map vX++[[]]).flatMap (· ++[13,10]):=by
 have e0:([13,10]:List Nat).flatMap n5=[13,10]:=by decide+kernel
 rw [vL]
 induction l with
 |nil=>exact e0
 |cons q l ih=>
  have ih:=ih λx hx=>h x (.tail _ hx)
  rw [ba,bx,bh,pU,ih,pU,KW (h q (.head _)),e0]
  rfl
theorem Oe (h:o7 q): ∀c∈vX q,c∈wQ:=by
 intro c hc
 rcases ar.mp hc with hc|hc
 ·rcases ar.mp hc with hc|hc
  ·exact .tail _ (.tail _ (.tail _ (ax _ (h.n3 c hc))))
  ·exact (by decide+kernel: ∀c∈[58,32],c∈wQ) c hc
 ·have:=xW h.v3 c hc
  rcases ao.mp this with rfl|h
  ·exact .head _
  ·exact .tail _ (.tail _ (.tail _ (aM _ h)))
theorem B4 (h: ∀q∈l,o7 q):Txt.lines (S ((oI l).flatMap n5))=(l.map vX++[[]]).map S:=by
 rw [zg h]
 refine DC (.inr (.inl rfl)) λx hx c hc=> ?_
 rcases ar.mp hx with hx|hx
 ·obtain ⟨q,h1,rfl⟩:=aK.mp hx
  exact (xq c (Oe (h q h1) c hc)).1
 ·rw [ak.mp hx] at hc;cases hc
theorem JA (h: ∀q∈l,o7 q):Q7 ((oI l).flatMap n5):=by
 intro x hx
 rw [B4 h] at hx
 refine mX (aK.mp hx) λy hy Ub=> ?_;obtain rfl:=Ub
 have e:(S y).cps.toList=y:=by simp [S]
 rw [e]
 rcases ar.mp hy with hy|hy
 ·refine mX (aK.mp hy) λq h1 Ub=> ?_;obtain rfl:=Ub
  refine o6 (CQ (h q h1).v3 (h q h1).v2) λa c h2 h3=> ?_
  have e2:(vX q).getLastD 0=c:=by unfold vX;rw [h2,<-aJ,fU]
  rw [e2]
  have:=EQ c h3
  simp [this.2.1,this.2.2]
 ·rw [ak.mp hy];rfl
def pO (w:Nat) (l:HP):List (List Nat):=l.flatMap (KR w)++[[]]
theorem Du (h: ∀q∈l,o7 q) (w:Nat):qn w ((oI l).flatMap n5)=pO w l:=by
 unfold qn
 rw [B4 h]
 have e0:rT w 0 []=[[]]:=rfl
 rw [bi,bV]
 have e1:((l.map vX).map S).flatMap (λx=>rT w x.length x.cps.toList)=l.flatMap (KR w):=by
  rw [aB,List.flatMap_map]
  congr 1
 rw [e1]
 rfl
theorem JF (h: ∀q∈l,o7 q):((oI l).flatMap n5).getLastD 0=10:=by
 rw [zg h,pU];simp
theorem Bg (h: ∀q∈l,o7 q) (w:Nat) (Un:List Nat):qX w ((oI l).flatMap n5) Un=(pO w l).flatMap (· ++Un):=by
 unfold qX wu
 rw [xV,JF h,Du h,if_pos (by decide)]
 exact zX _ _
theorem vT (hw:12<=w) (h: ∀q∈l,o7 q): ∀p∈pO w l,(∀c∈p,c∈wQ)/\p.length<=w/\(p=[]\/ ∃(q:List Nat) (c:Nat),p=q++[c]/\c∈61::xe):=by
 intro p hp
 rcases ar.mp hp with hp|hp
 ·refine mX (cU.mp hp) λq h1 h2=> ?_
  have:=J0 hw (h q h1)
  exact ⟨this.chars p h2,this.len p h2,.inr (this.last p h2)⟩
 ·rw [ak.mp hp];exact ⟨(λc h=>nomatch h),cx _,.inl rfl⟩
theorem t7 (hb:tn b): ∃c t,b=c::t/\(c=10\/c=13)/\(∀d∈b,d<256)/\b.length<=2:=by
 rcases hb with rfl|rfl|rfl
 ·exact ⟨10,[],rfl,.inl rfl,by decide,by decide⟩
 ·exact ⟨13,[10],rfl,.inr rfl,by decide,by decide⟩
 ·exact ⟨13,[],rfl,.inr rfl,by decide,by decide⟩
theorem Iz (hw:12<=w) (h: ∀q∈l,o7 q) (he:tn Un):Txt.split (S (qX w ((oI l).flatMap n5) Un)) (S Un)=(pO w l++[[]]).map S:=by
 refine nw (t7 he) λc t e hc hd z=> ?_
 rw [Bg h,<-zX]
 cases hm:pO w l++[[]] with
 |nil=>simp at hm
 |cons y ls=>
  refine zv e hd λx hx=> ?_
  rw [<-hm] at hx
  rcases ar.mp hx with hx|hx
  ·intro q
   have:=xq c ((vT hw h x hx).1 c q)
   rcases hc with rfl|rfl
   ·exact this.2.1 rfl
   ·exact this.2.2 rfl
  ·rw [ak.mp hx];exact λq=>nomatch q
theorem EY (he:tn Un): ∀ps:List (List Nat),(∀p∈ps,∀c∈p,c∈wQ)->po (ps.flatMap (· ++Un))=ps.flatMap (· ++[13,10])
 |[],_=>rfl
 |p::ps,h=>by
  have ih:=EY he ps λx hx=>h x (.tail _ hx)
  have hi: ∀c∈wQ,wM c=false:=by decide+kernel
  rw [bh,bh,aJ,yr _ _ λc hc=>hi c (h p (.head _) c hc),aJ,<-ih]
  congr 1
  rcases he with rfl|rfl|rfl
  ·exact Hs _
  ·exact Dj _
  ·refine Hg ?_
   cases ps with
   |nil=>simp
   |cons q ps=>
    cases q with
    |nil=>simp
    |cons c q=>
     have:=xq c (h (c::q) (.tail _ (.head _)) c (.head _))
     intro q'
     exact this.2.1 (am q')
theorem CO (r:List Nat): ∀p:List Nat,(∀c∈p,c≠10)->dots false (p++13::10::r)=p++13::10::dots ai r
 |[],_=>rfl
 |c::p,h=>by
  have hc:(c==10)=false:=by rw [beq_eq_false_iff_ne];exact h c (.head _)
  rw [bx,dots,if_neg (by simp),hc,CO r p λx hx=>h x (.tail _ hx)]
  rfl
theorem K7 (r p:List Nat) (h: ∀c∈p,c≠10):dots ai (p++13::10::r)=dd p++13::10::dots ai r:=by
 cases p with
 |nil=>rfl
 |cons c p=>
  have hc:(c==10)=false:=by rw [beq_eq_false_iff_ne];exact h c (.head _)
  unfold dd
  rw [bx,dots]
  by_cases h46:c=46
  ·subst h46
   rw [if_pos ⟨rfl,rfl⟩,CO r p λx hx=>h x (.tail _ hx)];rfl
  ·rw [if_neg λq=>h46 q.2,hc,CO r p λx hx=>h x (.tail _ hx),if_neg (by simpa using h46)];rfl
theorem FN: ∀ps:List (List Nat),(∀p∈ps,∀c∈p,c∈wQ)->dots ai (ps.flatMap (· ++[13,10]))=(ps.map dd).flatMap (· ++[13,10])
 |[],_=>rfl
 |p::ps,h=>by
  have ih:=FN ps λx hx=>h x (.tail _ hx)
  have:=K7 (ps.flatMap (· ++[13,10])) p λc hc=>(xq c (h p (.head _) c hc)).2.1
  rw [bh,aJ]
  rw [ih] at this
  rw [show [13,10]++ps.flatMap (· ++[13,10])=13::10::ps.flatMap (· ++[13,10]) from rfl,this]
  simp
theorem z9 (hw:12<=w) (h: ∀q∈l,o7 q) (he:tn Un):un (qX w ((oI l).flatMap n5) Un)=((pO w l).map dd).flatMap (· ++[13,10]):=by
 unfold un
 rw [Bg h,EY he _ λp hp=>(vT hw h p hp).1,FN _ λp hp=>(vT hw h p hp).1]
theorem Kd (h: ∀c∈p,c∈wQ): ∀c∈dd p,c∈wQ:=by
 intro c hc
 unfold dd at hc
 split at hc
 ·rcases ao.mp hc with rfl|hc
  ·decide
  ·exact h c hc
 ·exact h c hc
theorem N8 (h:p=[]\/ ∃q c,p=q++[c]/\c∈61::xe):Txt.rstrip (S (dd p))=S (dd p):=by
 rcases h with rfl|⟨q,c,rfl,hc⟩
 ·decide+kernel
 ·unfold dd
  split
  ·exact ye (l:=46::q) (EQ c hc).1
  ·exact ye (EQ c hc).1
theorem Gg {α:Type} {f:α->α} {l:List α} (h: ∀a∈l,f a=a):l.map f=l:=by
 conv=>rhs;rw [<-lh l]
 exact aV h
theorem Er (hw:12<=w) (mark:List Nat): ∀{l:HP},(∀q∈l,o7 q)->((l.flatMap (KR w)).map dd).flatMap (nO mark)=(l.map rB).flatMap (· ++mark)
 |[],_=>rfl
 |q::l,h=>by rw [bh,bi,bV,Er hw mark λx hx=>h x (.tail _ hx),R6 hw (h q (.head _)),ba,bh]
theorem J7 (hw:12<=w) (mark:List Nat) (h: ∀q∈l,o7 q):((pO w l).map dd).flatMap (nO mark)=jn mark (l.map rB++[[],[]]):=by
 have e0:(([[]]:List (List Nat)).map dd).flatMap (nO mark)=mark:=by
  rw [ba,gX,bh,jy,show dd []=[] from rfl,bK,nO]
 rw [yv,pO,bi,bV,e0,Er hw mark h]
theorem Pt {Q mark r:List Nat} (h:Q.getLastD 0=10) (ha:rg Q mark=r):vy Q mark=r:=by
 unfold vy
 rw [h,if_neg (λq=>absurd q.1 (by decide)),ha]
theorem KY (L:List (List Nat)):((L++[[]]).flatMap (· ++[13,10])).getLastD 0=10:=by
 have e1:(L++[[]]).flatMap (· ++[13,10])=(L.flatMap (· ++[13,10])++[13])++[10]:=by
  rw [pU,aJ]
  rfl
 rw [e1,fU]
theorem Ge (hw:12<=w) (h: ∀q∈l,o7 q) (he:tn Un) (mark:List Nat):vy (un (qX w ((oI l).flatMap n5) Un)) mark=jn mark (l.map rB++[[],[]]):=by
 have hq:=z9 hw h he
 have hl:Txt.lines (S (un (qX w ((oI l).flatMap n5) Un)))=((pO w l).map dd).map S:=by
  rw [hq]
  refine DC (.inr (.inl rfl)) λx hx c hc=> ?_
  obtain ⟨p,hp,rfl⟩:=aK.mp hx
  exact (xq c (Kd (vT hw h p hp).1 c hc)).1
 have hd:o0 (un (qX w ((oI l).flatMap n5) Un))=(pO w l).map dd:=by
  unfold o0
  rw [hl,aB]
  refine Gg (λa ha=> ?_)
  refine mX (aK.mp ha) λp hp Ub=> ?_;obtain rfl:=Ub
  show (Txt.rstrip (S (dd p))).cps.toList=dd p
  rw [N8 (vT hw h p hp).2.2]
 refine Pt ?_ ?_
 ·rw [hq,pO,bi]
  exact KY _
 ·unfold rg
  rw [hd]
  exact J7 hw mark h
theorem ML (h:o7 q): ∀c∈rB q,c≠10/\c≠13:=by
 intro c hc
 have hd: ∀c∈dd q.1,c∈wQ:=Kd λc hc=>.tail _ (.tail _ (.tail _ (ax _ (h.n3 c hc))))
 rcases ar.mp hc with hc|hc
 ·exact (xq c (hd c hc)).2
 ·rcases ao.mp hc with rfl|hc
  ·decide
  ·rcases ao.mp hc with rfl|hc
   ·decide
   ·have:=h.v3 c hc;exact (mK (.i (.l xR xA) (.a (.n (.e xA (.c 10))) (.n (.e xA (.c 13))))) [_]) this.1
theorem I7 {l:HP} (h: ∀q∈l,o7 q) (hm:tn mark):Txt.split (S (jn mark (l.map rB++[[],[]]))) (S mark)=(l.map rB++[[],[]]).map S:=by
 refine nw (t7 hm) λc t e hc hd z=> ?_
 cases hl:l.map rB++[[],[]] with
 |nil=>simp at hl
 |cons y ls=>
  refine zv e hd λx hx=> ?_
  rw [<-hl] at hx
  rcases ar.mp hx with hx|hx
  ·obtain ⟨q,h1,rfl⟩:=aK.mp hx
   intro q'
   have:=ML (h q h1) c q'
   rcases hc with rfl|rfl
   ·exact this.1 rfl
   ·exact this.2 rfl
  ·simp only [ao,fD,or_false,or_self] at hx
   rw [hx];exact λq=>nomatch q
theorem Ia (h:o7 q):Txt.split (S (rB q)) (S [58,32])=[S (dd q.1),S q.2]:=by
 have e:rB q=jn [58,32] [dd q.1,q.2]:=by simp [rB,jn]
 rw [e]
 refine zv (c:=58) (t:=[32]) rfl (by decide) λx hx=> ?_
 simp only [ao,fD,or_false] at hx
 rcases hx with rfl|rfl
 ·intro hc
  unfold dd at hc
  split at hc
  ·rcases ao.mp hc with q|hc
   ·cases q
   ·exact (y6 _ (h.n3 _ hc)).2.2.1 rfl
  ·exact (y6 _ (h.n3 _ hc)).2.2.1 rfl
 ·intro hc
  have:=h.v3 _ hc;exact (mK (.n (.l xR (.c 58))) [] []) this.1
end
section
open PySem.Calls PyProof.Rows PySem.Builtin.Str
section
variable {prog:aG} {w:au} {A:aX} {X:List aF} {I:aW->Prop} {φ:Fs}
theorem Hv (i:IntsAre vs ns):mR X h (ns.map PV.int) vs:=by
 induction i with
 |nil=>exact mR.nil
 |cons _ _ _ i=>exact mR.cons tU i
theorem OU {ns:List Int} (hh:A.handled=az):pZ prog w A X I (.builtin "sum") [.list (ns.map PV.int)] (.int ns.sum):=λs vs z z r=>by
 refine mX (qQ r) λv Ub r1=> ?_;obtain rfl:=Ub
 refine nw (pL r1) λa us Ub z hl hr=> ?_;obtain rfl:=Ub
 have hi:=uN hr
 refine eE hi.allInts.items λxs e=> ?_
 have en:numsOf us=ns:=hi.numsOf
 refine sum_intListG hh (e▸hl) λh' tk t' hk=>⟨⟨h',tk,rfl,hk⟩,?_⟩
 have:preSum (numAt xs) xs.size=ns.sum:=by
  have e2:=nums_intItems xs
  rw [<-e] at e2
  have e3:numsOf us.toArray.toList=ns:=en
  rw [preSum_eq,bF (by simp)]
  rw [e2] at e3
  rw [e3]
 rw [this]
 exact tU
theorem OO {ns:List Int} (hh:A.handled=az) (hM:M∈ns) (VA: ∀a∈ns,a<=M):pZ prog w A X I (.builtin "max") [.list (ns.map PV.int)] (.int M):=λs vs z z r=>by
 refine mX (qQ r) λv Ub r1=> ?_;obtain rfl:=Ub
 refine nw (pL r1) λa us Ub z hl hr=> ?_;obtain rfl:=Ub
 have hi:=uN hr
 have Uu:0<us.length:=by rw [hr.len,ah];exact List.length_pos_of_mem hM
 obtain ⟨xs,e⟩:=hi.allInts.items
 have en:numsOf us=ns:=hi.numsOf
 have hsz:0<xs.size:=by
  have:=congrArg Array.size e
  simp [intItems] at this
  exact (mK (.i (.b xJ xB) (.i (.e xB xA) (.b xJ xA))) [_,_]) Uu this
 refine max_intList hh (e▸hl) hsz λv h' tk hv hk=>⟨⟨h',tk,rfl,hk⟩,?_⟩
 obtain ⟨t,rfl⟩:=intItems_at hv
 refine eA (argBest_gt (numAt xs) (xs.size - 1)) λh1 h2=> ?_
 have e2:=nums_intItems xs
 rw [<-e] at e2
 have e3:numsOf us.toArray.toList=ns:=en
 rw [e2] at e3
 generalize hk:mh (λi j=>decide (numAt xs i>numAt xs j)) (xs.size - 1)=k at*
 have m1:numAt xs k∈ns:=by
  rw [numAt_eq,<-e3]
  exact PySem.getD_mem (by rw [ah,ly];exact (mK (.i (.b xJ xB) (.i (.l xA (.s xB xI)) (.b xA xB))) [_,_]) hsz h1)
 have m2:M<=numAt xs k:=by
  rw [<-e3] at hM
  obtain ⟨j,hj,e4⟩:=PySem.mem_getD hM
  rw [ah,ly] at hj
  rw [<-e4,<-numAt_eq]
  exact h2 j (by exact (mK (.i (.b xA xB) (.l xA (.s xB xI))) [_,_]) hj)
 have:=VA _ m1
 rw [show numAt xs k=M by exact (mK (.i (.L xB xA) (.i (.L xA xB) (.E xA xB))) [] [_,_]) m2 this]
 exact tU
theorem It (h64:ns.length<64):pZ prog w A X I (.builtin "sorted") [.list (ns.map PV.int)] (.list ((sortI ns).map PV.int)):=λs vs z lx r=>by
 refine mX (qQ r) λv Ub r1=> ?_;obtain rfl:=Ub
 refine nw (pL r1) λa us Ub z hl hr=> ?_;obtain rfl:=Ub
 have hi:=uN hr
 have Uo:us.length<64:=by rw [hr.len,ah];exact h64
 refine sorted_ints hl hi Uo λout ns' a1 a2 a3=> ?_
 refine eE (sortedAll_at s.heap us out) λe he=> ?_
 have hk:m4 s.heap (sortedAll s.heap us out):=λz z=>sortedAll_old
 refine ⟨⟨_,s.toks,rfl,hk⟩,?_⟩
 rw [<-eq_sortI a2 a3]
 refine uK (vs:=out.toList) (λq=> ?_) ⟨_,he,rfl,e,rfl⟩ (Hv a1)
 obtain ⟨o,e'⟩:=lx _ q
 exact absurd (aR e') (i7.mpr (iy _))
theorem Kp (hz:ps.length<=100000):pZ prog w A X I (.type "tuple") [.list ps] (.tup ps):=λs vs z lx r=>by
 have XK:=aw
 refine mX (qQ r) λv Ub r1=> ?_;obtain rfl:=Ub
 refine nw (pL r1) λa us Ub z hl hr=> ?_;obtain rfl:=Ub
 refine call_tuple_list hl (λh' hk=> ?_) (by rw [bq,hr.len];exact (mK (.i (.l xA (.c 100000)) (.i (.e xB xL) (.l xA xB))) [_,_]) hz XK)
 have kk:m4 s.heap (h'.push {cls:=.type "tuple",data:=.seq us.toArray}):=λb o e=>aO _ (hk b o e)
 refine ⟨⟨_,s.toks,rfl,kk⟩,EI (λq=> ?_) ⟨_,av _ rfl,rfl,_,rfl⟩ (hr.keep kk)⟩
 obtain ⟨o,e'⟩:=lx _ q
 exact absurd (aR (hk _ _ e')) (bY _)
theorem CU (l:List Nat): ∀k,(aH k l).flatten.length=k*l.length
 |0=>by simp
 |k+1=>by rw [cq,cu,af,CU l k,Nat.succ_mul];exact mK (.e (.a xA xB) (.a xB xA)) [_,_]
theorem C4 (l:List Nat): ∀(k:Nat) (UD:Array Nat),((aH k l.toArray).foldl (· ++ ·) UD)=UD++(aH k l).flatten.toArray
 |0,UD=>by rfl
 |k+1,UD=>by
  rw [cq,eY,C4 l k,cq,cu]
  simp
theorem yq {k:Nat} (hl:l.length<=1000) (hk:k<=1000):og prog w A X (cf .Mult) (.str (S l)) (.int (k:Int)) (.str (S (aH k l).flatten)):=λs x y _ r q=>by
 have XK:=aw
 obtain ⟨t,rfl⟩:=nG r
 refine eE (tz q) λu Ub=> ?_;obtain rfl:=Ub
 have Uo:(S l).length=l.length:=m6 l
 have hkl:k*l.length<=1000000:=by
  have:=gr hk hl;omega
 refine P.mul_str (by rw [decide_eq_false (by exact mK (.n (.B (.k xA) (.g xS))) [_]),decide_eq_false (by exact (mK (.i (.l xA xQ) (.n (.L xS (.k xA)))) [_]) hk)];rfl) (λh1 h2=> ?_) (λh1 h2=> ?_) ?_
 ·rw [Uo]
  have VO:(1:Int)<=k:=by exact (mK (.i (.n (.B (.k xA) xI)) (.L xI (.k xA))) [_]) h1
  have:(1000:Int)<=(2^63 - 1)/k:=by
   rw [Int.le_ediv_iff_mul_le (by exact (mK (.i (.n (.B (.k xA) xI)) (.B xJ (.k xA))) [_]) h1)]
   exact (mK (.i (.l xA xQ) (.L (.m 1000 (.k xA)) (.s xS xI))) [_]) hk
  exact (mK (.i (.l xA xQ) (.i (.L xQ xA) (.n (.B xA (.k xA))))) [_] [_]) hl this
 ·rw [Uo,ca]
  unfold gy
  have:l.length*k<=1000000:=by rw [eM];exact hkl
  simp only [decide_eq_false_iff_not]
  exact (mK (.i (.e xA xL) (.i (.l xB (.c 1000000)) (.n (.b xA xB)))) [_,_]) XK this
 ·cases k with
  |zero=>
   rw [if_pos (by exact mK (.B (.k xJ) xI) [] [])]
   refine ⟨by decide,⟨_,_,rfl,λ_ _ e=>e⟩,?_⟩
   exact ou
  |succ k=>
   rw [if_neg (by exact mK (.n (.B (.k (.a xA xI)) xI)) [_])]
   split
   ·rename_i c
    refine ⟨⟨_,_,rfl,λ_ _ e=>e⟩,?_⟩
    have:S l=S (aH (k+1) l).flatten:=by
     rw [Bool.or_eq_true,beq_iff_eq,beq_iff_eq] at c
     rcases c with c|c
     ·obtain rfl:k=0:=by exact (mK (.i (.E (.k (.a xA xI)) xI) (.e xA xJ)) [_]) c
      simp
     ·rw [Uo] at c
      rw [aY.mp c]
      congr 1
      symm
      rw [List.flatten_eq_nil_iff]
      intro x hx
      exact (dW.mp hx).2
    rw [<-this]
    exact ou
   ·have e:(⟨(aH ((k+1:Nat):Int).toNat (S l).cps).foldl (· ++ ·) #[]⟩:Str)=S (aH (k+1) l).flatten:=by
     rw [ca]
     apply iw
     rw [C4]
     simp [S]
    rw [e]
    refine ⟨by rw [m6,CU];exact (mK (.i (.e xB xL) (.i (.l xA (.c 1000000)) (.l xA xB))) [_,_]) XK hkl,⟨_,_,rfl,λ_ _ e=>e⟩,ou⟩
end
section
variable {prog:aG} {w:au} {φ:Fs}
theorem Cs {st:Expr} {lo hi0:Option Int} (hv:Ev prog w φ value (.list (ns.map PV.int))) (hl:yP prog w φ lower lo) (hu:yP prog w φ upper hi0) (hs:yP prog w φ (aa st) (aa k)) (hk:k≠0)
  (hsz:ns.length<=bo):Ev prog w φ (.Subscript value (.Slice lower upper (aa st) p) pos) (.list ((i5 ns lo hi0 (aa k)).map PV.int)):=.mk λs i=>by
 refine Subscript_ (ab (hv.run s i) (λv Ua uu=>eA uu λUc Uf=>j7 (ab (hl.run Ua (φ.mono' i Uc)) (λvl Ud uu=>o8 uu λUe lt e2 Wd=>ab (hu.run Ud (φ.mono' i (mO Uc Ue))) (λvu Uk uu=>o8 uu λUm ut e3 Xi=>
  ab (hs.run Uk (φ.mono' i (mO Uc (mO Ue Um)))) (λvst Uw uu=>o8 uu λUH stt e4 e4'=> ?_) λz z e=>e) λz z e=>e) λz z e=>e)) λz z e=>e)
 subst e2 e3 e4
 refine nw (pL Uf) λa vs Ub ha Wg hr=> ?_;obtain rfl:=Ub
 have kk:=mO Uc (mO Ue (mO Um UH))
 have VV:=mO (mO Ue (mO Um UH)) (m9 Uw {cls:=.type "slice",data:=.fields #[cL lt,cL ut,cL stt]} Uw.toks)
 have hl4:=Wg.at λo e=>mN VV _ _ e
 have hi:=uN hr
 refine vN hl4.typeIs fP.lookup (g8 hl4 (gR _ _ _ _) (xh Wd) (xh Xi) (xh e4') (by simpa using hk) ?_ (by rw [bq,hr.len,ah];exact hsz))
 have lx:=φ.live _ (φ.mono' i (mO kk (m9 Uw {cls:=.type "slice",data:=.fields #[cL lt,cL ut,cL stt]} Uw.toks)))
 have h2:=IntsAre.pick hi lo hi0 (aa k)
 have:=uQ (s:={Uw with heap:=Uw.heap.push {cls:=.type "slice",data:=.fields #[cL lt,cL ut,cL stt]}}) (tk:=Uw.toks) lx (Hv h2)
 exact ⟨mO Uc (mO VV this.1),this.2⟩
end
section
variable {prog:aG} {w:au} {A:aX} {E:ay->aq->Prop} {s:aq}
theorem z5 {Uq} {Q:ay->aq->Prop} (WQ:s.heap.IsTupleIter it t i)
  (ht:s.heap.IsTuple t Uq) (hx:Uq[i]? =aa x)
  (hQ: ∀h',h'.IsTupleIter it t (i+1)->cM it s.heap h'->Q x {s with heap:=h'}):
  aC (aI prog w) A (ii (.ref it)) Q E s:=by
 refine tL (id WQ) λo ho hc hd=> ?_
 refine IF ht λol Wf z nl hdl=> ?_
 refine ae (fz (name:=aS "__next__") WQ.typeIs F.slot_tuple_iterator_next
  (dA F.slot_tuple_iterator_next WQ.typeIs F.entry_tuple_iterator_next ?_ (F.args_tuple_iterator_next_1 _)))
 show aC _ _ (field (.ref it) 0 >>= _) _ _ s
 refine ae (ed ho hd (x:=.ref t) rfl ?_)
 rw [if_neg (show ¬((jq t==iJ)=ai) from dz)]
 refine ae (ed ho hd (x:=.int i 0) rfl ?_)
 refine ae (dY Wf hdl ?_)
 simp only [ca,hx]
 refine ae (wpAny_setField ho hd (by simp) (aj ⟨x,rfl,aj (hQ _ ?_ (ef ..))⟩))
 exact ⟨_,cr _ ho (Obj.isFreed_of_fields (mu hd _)),(Obj.cls_mapFields ..).trans hc,by
  rw [mu hd];simp [eQ]⟩
theorem Ax {Uq} {Q:ay->aq->Prop} (hh:A.handled=az)
  (WQ:s.heap.IsTupleIter it t i) (hl:s.heap.IsTuple t Uq) (hx:Uq[i]? =az)
  (hE: ∀h' e,aW.ExtBut it s.heap h'->(∃o,h'.get? e=aa o/\o.cls= .type "StopIteration")->E (.ref e) {s with heap:=h'}):
  aC (aI prog w) A (ii (.ref it)) Q E s:=by
 refine tL (id WQ) λo ho hc hd=> ?_
 refine IF hl λol Wf z nl hdl=> ?_
 refine ae (fz (name:=aS "__next__") WQ.typeIs F.slot_tuple_iterator_next
  (dA F.slot_tuple_iterator_next WQ.typeIs F.entry_tuple_iterator_next ?_ (F.args_tuple_iterator_next_1 _)))
 show aC _ _ (field (.ref it) 0 >>= _) _ _ s
 refine ae (ed ho hd (x:=.ref t) rfl ?_)
 rw [if_neg (show ¬((jq t==iJ)=ai) from dz)]
 refine ae (ed ho hd (x:=.int i 0) rfl ?_)
 refine ae (dY Wf hdl ?_)
 simp only [ca,hx]
 refine ae (gK (ae (wpAny_setField ho hd (by simp) ?_)))
 refine ae ?_
 refine ae (eI ?_ (by size_fits))
 refine ae (m:=firstArgMember _ _) (bD (a:=iJ) (by first|rfl|(simp only [firstArgMember];rfl)) ?_)
 refine eI ?_ (by size_fits)
 refine ae (wpAny_handled ?_)
 first|rw [show A.in1.handled=az from hh]|rw [hh]
 refine ae (aj (wpAny_throw ?_))
 exact hE _ _ (((ef ..).extBut.push _).push _) ⟨_,av _ rfl,rfl⟩
theorem Gl (hh:A.handled=az) (it l:aF) (Uu:l≠it) (Uq:Array ay):
  Draws prog w A it [it,l] Uq.size (λi v=>Uq[i]? =aa v) (λi h=>h.IsTupleIter it l i/\h.IsTuple l Uq) where
 live:=λi h ⟨⟨o,ho,z⟩,y⟩=>⟨o,ho⟩
 frame:=λi h h' ⟨⟨o,a,r⟩,⟨o',b,r'⟩⟩ hk=>⟨⟨o,hk it (.head _) _ a,r⟩,⟨o',hk l (.tail _ (.head _)) _ b,r'⟩⟩
 item:=λi s Q E hi st hQ=>z5 st.1 st.2 (eK hi) λh' hit' hs=>hQ _ h' s.toks (eK hi) ⟨hit',st.2.extBut hs.extBut Uu⟩ hs
 done:=λs Q E st hE=>Ax hh st.1 st.2 (by simp) λh' e he ho=>hE h' e he ho
set_option tactic.hygienic true in
theorem yC (l:aF) (Uq:Array ay) (n:Nat) (VT:Option aF) (sl:Array (Option ay)):
  Meets (Builtin.«enumerate.__new__» ⟨[.type "enumerate",.ref l],[]⟩) (λ_ R s=>s.heap.get? l=aa {cls:=.type "tuple",dict:=VT,data:=.seq Uq n,slots:=sl}/\
   R (.ok (.ret (.ref (s.heap.push {cls:=.type "tuple_iterator",data:=.fields #[.ref l,.int 0 0]}).objs.size)))
    {s with heap:=(s.heap.push {cls:=.type "tuple_iterator",data:=.fields #[.ref l,.int 0 0]}).push {cls:=.type "enumerate",data:=.fields #[.none,.bool false,.ref s.heap.objs.size,eQ 0,.none,.none]}}):=
 .of_wp λprog w A R s h=>by
  obtain ⟨hp,g,d,tk,os⟩:=s;refine eA h λhl h=> ?_
  have hsub:=sub_enumerate
  have hL:aW.IsTuple (aq.heap ⟨hp,g,d,tk,os⟩) l Uq:=⟨_,hl,rfl,n,rfl⟩
  wp_walk using iF hl
  refine wpAny_stack_any λst=>aj ?_
  split
  ·rename_i c _ _ _ _ _
   cases (c==du "enumerate")
   ·wp_walk using iF hl,et hL
    exact ⟨_,rfl,h⟩
   ·wp_walk using iF hl,et hL
    exact ⟨_,rfl,h⟩
  ·wp_walk using iF hl,et hL
   exact ⟨_,rfl,h⟩
theorem yN {Q:ay->aq->Prop} (hL:s.heap.IsTuple l Uq)
  (h: ∀h',IsEnum h' (s.heap.objs.size+1) s.heap.objs.size 0 .none->h'.IsTupleIter s.heap.objs.size l 0->h'.objs.size=s.heap.objs.size+2->
   (∀b o,s.heap.get? b=aa o->h'.get? b=aa o)->Q (.ref (s.heap.objs.size+1)) {s with heap:=h'}):
  aC (aI prog w) A (ft (.type "enumerate") [.ref l]) Q E s:=by
 obtain ⟨⟨c,VT,dt,sl⟩,hl,hc,n,hd⟩:=hL
 replace hc:c= .type "tuple":=hc
 replace hd:dt= .seq Uq n:=hd
 subst hc hd
 refine callType_new F.called_enumerate (by decide) (F.typeCall_enumerate_1 _) (F.newCall_enumerate_1 _) (λobj=>F.args_object_init_2 obj _) F.entry_enumerate_new
  (yC l Uq n VT sl) ⟨hl,?_⟩
 have hz:(s.heap.push {cls:=.type "tuple_iterator",data:=.fields #[.ref l,.int 0 0]}).objs.size=s.heap.objs.size+1:=cw ..
 rw [hz]
 have he:IsEnum ((s.heap.push {cls:=.type "tuple_iterator",data:=.fields #[.ref l,.int 0 0]}).push
   {cls:=.type "enumerate",data:=.fields #[.none,.bool false,.ref s.heap.objs.size,eQ 0,.none,.none]}) (s.heap.objs.size+1) s.heap.objs.size 0 .none:=by
  have:=av (s.heap.push {cls:=.type "tuple_iterator",data:=.fields #[.ref l,.int 0 0]})
   (o:={cls:=.type "enumerate",data:=.fields #[.none,.bool false,.ref s.heap.objs.size,eQ 0,.none,.none]}) rfl
  rw [hz] at this;exact this
 refine ⟨⟨_,he,rfl⟩,h _ he ⟨_,aO _ (av _ rfl),rfl,rfl⟩ (by rw [cw,hz]) λb o x=>aO _ (aO _ x)⟩
end
section
variable {prog:aG} {w:au} {c:Sc} {σ:m7} {Λ:List (aF×List PV)}
theorem JP (he:Fh prog w (fs c σ Λ) iter "enumerate" [.tup ps]) (hh:c.A.handled=az) (ho: ∀b∈own,b∈c.X):
  uF prog w c σ Λ own (.Tuple Vu ek epos) iter ((ps.mapIdx λi p=>[.int i,p]).map .tup):=.mk λs i=>by
 refine he.run s i _ λUa vs Uc r=> ?_
 refine nu r ?_;clear r;intro v us Ub r q;obtain rfl:=Ub
 subst q
 refine nw r ?_;clear r;intro a vs Ub ha hl hr;obtain rfl:=Ub
 have hr:mR c.X Ua.heap ps vs:=hr
 have hn:a∉own:=λq=>ha (ho a q)
 refine mX (id hl) λo e1 e2=> ?_
 have lt: @kD Nat _ a Ua.heap.objs.size:=aR e1
 have ga:(hideAll Ua.heap own).get? a=aa o:=bS _ e1 hn
 refine yN hl λh' hE hI hz hk=> ?_
 refine wpAny_pyIter_enum hE ?_
 have Ue:bB Ua {Ua with heap:=h'}:=⟨h',Ua.toks,rfl,hk⟩
 have hla:h'.IsTuple a vs.toArray:=let ⟨o,e,r⟩:=hl;⟨o,hk _ _ e,r⟩
 refine ⟨Ua,_,[Ua.heap.objs.size+1,Ua.heap.objs.size],_,rfl,yu (WalksT.enumerateD (Gl (A:=c.A.in1) hh Ua.heap.objs.size a (pn (by exact (mK (.i (.b xA xB) (.o (.b xA xB) (.b xB xA))) [_,_]) lt)) vs.toArray) (Ua.heap.objs.size+1) (pn (by exact mK (.o (.b (.a xA xI) xA) (.b xA (.a xA xI))) [_])) (by simp;exact (pn (by exact (mK (.i (.b xB xA) (.o (.b (.a xA xI) xB) (.b xB (.a xA xI)))) [_,_]) lt))) (by simp)) (λy h=>h) (λb hb=> ?_) (λb hb=> ?_) (λi h st b hb=> ?_) ?_ (λj p v h Y e1 e2 k hY=> ?_),
  ⟨⟨⟨_,hE⟩,hI,hla⟩,λb o e=>hk _ _ (bU _ e)⟩,Uc,Ue,λb hb=> ?_⟩
 ·simp at hb
  rcases hb with rfl|rfl|rfl
  ·exact .inl (.head _)
  ·exact .inl (.tail _ (.head _))
  ·exact .inr ⟨o,ga⟩
 ·simp at hb
  rcases hb with rfl|rfl
  ·exact pw (oh (by exact mK (.l xA (.a xA xI)) [_]))
  ·exact pw (oh (by exact mK (.l xA xA) [_]))
 ·simp at hb
  rcases hb with rfl|rfl
  ·obtain ⟨⟨old,q⟩,_⟩:=st;exact ⟨_,q,λv z=>nomatch z⟩
  ·obtain ⟨_,⟨o,q1,q2,q3⟩,_⟩:=st;exact ⟨o,q1,λv z=>by rw [q3] at z;cases z⟩
 ·rw [bq,hr.len,l0]
 ·obtain ⟨t,x,q,rfl⟩:=e2
  rw [lk] at e1
  refine mX (dT.mp e1) λp' hp Ub=> ?_;obtain rfl:=Ub
  exact mR.cons (by exact ⟨t,rfl⟩) (mR.cons (mV.keep k ((hr.get' hp q |>.keepX (sD ho)).sub hY)) mR.nil)
 ·simp at hb
  rcases hb with rfl|rfl
  ·exact oh (by exact mK (.l xA (.a xA xI)) [_])
  ·exact oh (by exact mK (.l xA xA) [_])
end
section
variable {prog:aG} {w:au} {A:aX} {E:ay->aq->Prop} {s:aq}
theorem GB {Q:Option Obj->aq->Prop} (ho:s.heap.get? a=aa o) (h:Q (aa o) s):aC M A (loadIfAlive a) Q E s:=λΓ p z=>by
 show iX M Γ (.loadIfAlive a .pure) _ _ p s
 rw [Sem.wp_loadIfAlive,ho]
 exact h
abbrev uk (h:aW) (z TI TO T:aF) (b:Bool):Prop:=
 h.get? z=aa {cls:=.type "zip",dict:=az,data:=.fields #[eQ T,.bool b,.bool false,.ref TI,.ref TO],slots:= #[]}
theorem Dw {oT:Obj} (hz:uk s.heap z TI TO T b) (hT:s.heap.get? T=aa oT):
  aC (aI prog w) A (Builtin.SmallTypes.ownedTupleIsFree (.ref z)) (λr s'=>r=false/\ ∃Ul,s'={s with heap:=Ul}/\uk Ul z TI TO T ai/\cM z s.heap Ul) E s:=by
 refine ae (ed hz rfl (x:=eQ T) rfl ?_)
 show aC _ _ (loadIfAlive (Int.toNat (T:Int)) >>= _) _ _ _
 rw [ca]
 refine ae (GB hT ?_)
 simp only [Option.isNone_some,a9,if_false]
 refine ae (ed hz rfl (x:=.bool b) rfl ?_)
 cases b
 ·simp only [show ((jL false !=jL ai)=ai) from rfl,if_true]
  refine ae (wpAny_setField_rec hz (by simp) λUl hz1 US=> ?_)
  exact aj ⟨rfl,Ul,rfl,hz1,US⟩
 ·have: ¬((jL ai !=jL ai)=ai):=by decide
  simp only [this,if_false,a9]
  first
   |exact aj ⟨rfl,s.heap,rfl,hz,.refl ..⟩
   |exact ae (aj (aj ⟨rfl,s.heap,rfl,hz,.refl ..⟩))
theorem DO {oT:Obj} {Q:ay->aq->Prop} (D:i4 z TI TO i1 i2 l1 l2)
  (hz:uk s.heap z TI TO T b) (hT:s.heap.get? T=aa oT) (Xs:gZ s.heap TI (.ref i1) (.ref i2))
  (h1:s.heap.IsListIter i1 l1 k1) (h2:s.heap.IsListIter i2 l2 k2) (hl1:s.heap.IsList l1 xs) (hl2:s.heap.IsList l2 ys) (hx:xs[k1]? =aa x) (hy:ys[k2]? =aa y)
  (hQ: ∀h',uk h' z TI TO T ai->h'.IsListIter i1 l1 (k1+1)->h'.IsListIter i2 l2 (k2+1)->gZ h' s.heap.objs.size x y->h'.objs.size=s.heap.objs.size+1->
   (∀c o,c≠z->c≠i1->c≠i2->s.heap.get? c=aa o->h'.get? c=aa o)->Q (.ref s.heap.objs.size) {s with heap:=h'}):
  aC (aI prog w) A (Builtin.«zip.__next__» ⟨[.ref z],[]⟩) (λqx s'=> ∃v,qx= .done (.ret v)/\Q v s') E s:=by
 show aC _ _ (field (.ref z) 2 >>= _) _ _ _
 refine ae (ed hz rfl (x:=.bool false) rfl ?_)
 refine ae (ed hz rfl (x:=.ref TI) rfl ?_)
 refine ae (dY Xs rfl ?_)
 refine ae (ab (Dw (E:=E) hz hT) (λr Ua uu=>NS uu λe Ul e' hz1 US=> ?_) λj j e=>e)
 subst e e'
 simp only [a9,if_false]
 rw [<-lP]
 simp only [cF,ik]
 refine ae (ae (ae (bL ?_)))
 refine ae (mo (h1.extBut US.extBut D.i1z) (hl1.extBut US.extBut D.l1z) hx λUE h1₂ Vk=>aj (aj ?_))
 refine ae (ae (bL ?_))
 refine ae (mo ((h2.extBut US.extBut D.i2z).extBut Vk.extBut D.i12.symm) ((hl2.extBut US.extBut D.l2z).extBut Vk.extBut D.l2i1) hy λUy h2₃ hs3=>aj (aj ?_))
 refine aj ?_
 refine ae (wpAny_newTuple ?_ (by show 2<=bo;decide))
 have hsz:Uy.objs.size=s.heap.objs.size:=by rw [hs3.1,Vk.1,US.1]
 have hz₃:uk Uy z TI TO T ai:=hs3.extBut _ _ D.i2z.symm (Vk.extBut _ _ D.i1z.symm hz1)
 have h1₃:Uy.IsListIter i1 l1 (k1+1):=h1₂.extBut hs3.extBut D.i12
 refine aj ⟨_,rfl,?_⟩
 rw [hsz]
 have pk: ∀c o,Uy.get? c=aa o->(Uy.push {cls:=.type "tuple",data:=.seq #[x,y]}).get? c=aa o:=λc o e=>aO _ e
 refine hQ _ (pk _ _ hz₃) (h1₃.at λo e=>pk _ o e) (h2₃.at λo e=>pk _ o e) ?_ (by rw [cw,hsz]) λc o c1 c2 c3 e=>pk _ _ (hs3.extBut _ _ c3 (Vk.extBut _ _ c2 (US.extBut _ _ c1 e)))
 rw [<-hsz]
 exact av _ rfl
theorem EM {oT:Obj} {Q:Fin->aq->Prop} (hh:A.handled=az) (D:i4 z TI TO i1 i2 l1 l2)
  (hz:uk s.heap z TI TO T b) (hT:s.heap.get? T=aa oT) (Xs:gZ s.heap TI (.ref i1) (.ref i2))
  (h1:s.heap.IsListIter i1 l1 k1) (hl1:s.heap.IsList l1 xs) (hx:xs[k1]? =az)
  (hE: ∀h' e,(∀c o,c≠z->c≠i1->s.heap.get? c=aa o->h'.get? c=aa o)->(∃o,h'.get? e=aa o/\o.cls= .type "StopIteration")->E (.ref e) {s with heap:=h'}):
  aC (aI prog w) A (Builtin.«zip.__next__» ⟨[.ref z],[]⟩) Q E s:=by
 show aC _ _ (field (.ref z) 2 >>= _) _ _ _
 refine ae (ed hz rfl (x:=.bool false) rfl ?_)
 refine ae (ed hz rfl (x:=.ref TI) rfl ?_)
 refine ae (dY Xs rfl ?_)
 refine ae (ab (Dw (E:=E) hz hT) (λr Ua uu=>NS uu λe Ul e' hz1 US=> ?_) λz z e=>e)
 subst e e'
 simp only [a9,if_false]
 rw [<-lP]
 simp only [cF,ik]
 refine ae (ae (ae (bL ?_)))
 refine ae (wpAny_nextOf_list_end hh (h1.extBut US.extBut D.i1z) (hl1.extBut US.extBut D.l1z) hx λUE e Vk he=> ?_)
 exact hE UE e (λc o c1 c3 x=>Vk _ _ c3 (US.extBut _ _ c1 x)) he
structure Dz (h:aW) (z TI TO i1 i2 l1 l2 S:aF) (xs ys:Array ay) (i:Nat):Prop where
 ti:gZ h TI (.ref i1) (.ref i2)
 to: ∃a b,gZ h TO a b
 it1:h.IsListIter i1 l1 i
 it2:h.IsListIter i2 l2 i
 li1:h.IsList l1 xs
 li2:h.IsList l2 ys
 zip:IsZip h z TI TO .none\/ ∃T b o,uk h z TI TO T b/\h.get? T=aa o/\T≠S/\T≠z/\T≠TO/\T≠i1/\T≠i2
theorem Dz.keep {h h':aW} {z TI TO i1 i2 l1 l2 S:aF} (t:Dz h z TI TO i1 i2 l1 l2 S xs ys i) (k: ∀c o,c≠S->h.get? c=aa o->h'.get? c=aa o) (hS:S≠z/\S≠TI/\S≠TO/\S≠i1/\S≠i2/\S≠l1/\S≠l2):Dz h' z TI TO i1 i2 l1 l2 S xs ys i where
 ti:=k _ _ hS.2.1.symm t.ti
 to:=let ⟨a,b,q⟩:=t.to;⟨a,b,k _ _ hS.2.2.1.symm q⟩
 it1:=t.it1.at λo e=>k _ o hS.2.2.2.1.symm e
 it2:=t.it2.at λo e=>k _ o hS.2.2.2.2.1.symm e
 li1:=t.li1.at λo e=>k _ o hS.2.2.2.2.2.1.symm e
 li2:=t.li2.at λo e=>k _ o hS.2.2.2.2.2.2.symm e
 zip:=by
  rcases t.zip with q|⟨T,b,o,q1,q2,q3⟩
  ·exact .inl (k _ _ hS.1.symm q)
  ·exact .inr ⟨T,b,o,k _ _ hS.1.symm q1,k _ _ q3.1 q2,q3⟩
theorem Mi {z TI TO i1 i2 l1 l2 S:aF} {Q:Option ay->aq->Prop} (D:i4 z TI TO i1 i2 l1 l2) (t:Dz s.heap z TI TO i1 i2 l1 l2 S xs ys i) (hS:S<s.heap.objs.size)
  (hx:xs[i]? =aa x) (hy:ys[i]? =aa y)
  (hQ: ∀h',Dz h' z TI TO i1 i2 l1 l2 S xs ys (i+1)->gZ h' s.heap.objs.size x y->h'.objs.size=s.heap.objs.size+1->(∀c o,c≠z->c≠TO->c≠i1->c≠i2->s.heap.get? c=aa o->h'.get? c=aa o)->Q (aa (.ref s.heap.objs.size)) {s with heap:=h'}):
  aC (aI prog w) A (l9 (.ref z)) Q E s:=by
 have lt: ∀{c o},s.heap.get? c=aa o->s.heap.objs.size≠c:=λe=>cZ (aR e)
 have n1:s.heap.objs.size≠i1:=by obtain ⟨_,e,_⟩:=t.it1;exact lt e
 have n2:s.heap.objs.size≠i2:=by obtain ⟨_,e,_⟩:=t.it2;exact lt e
 refine rU t.to λa b Vw=> ?_
 have qx: ∀h' b',uk h' z TI TO s.heap.objs.size b'\/(∃T b o,uk h' z TI TO T b/\h'.get? T=aa o/\T≠S/\T≠z/\T≠TO/\T≠i1/\T≠i2)->gZ h' s.heap.objs.size x y->(∃a b,gZ h' TO a b)->h'.IsListIter i1 l1 (i+1)->h'.IsListIter i2 l2 (i+1)->s.heap.objs.size≠z->s.heap.objs.size≠TO->
   (∀c o,c≠z->c≠TO->c≠i1->c≠i2->s.heap.get? c=aa o->h'.get? c=aa o)->Dz h' z TI TO i1 i2 l1 l2 S xs ys (i+1):=λh' b' hz hp hto a1 a2 nz nTO hk=>{
  ti:=hk _ _ D.TIz D.TITO D.TIi1 D.TIi2 t.ti
  to:=hto
  it1:=a1
  it2:=a2
  li1:=t.li1.at λo e=>hk _ o D.l1z D.l1TO D.l1i1 D.l1i2 e
  li2:=t.li2.at λo e=>hk _ o D.l2z D.l2TO D.l2i1 D.l2i2 e
  zip:=by
   rcases hz with q|q
   ·exact .inr ⟨_,b',_,q,hp,cZ hS,nz,nTO,n1,n2⟩
   ·exact .inr q}
 rcases t.zip with hz|⟨T,b',oT,hz,hT,nS,nz,nTO,m1,m2⟩
 ·refine wpAny_pyNext_zip_item D hz t.ti Vw t.it1 t.it2 t.li1 t.li2 hx hy λh' a1 a2 a3 a4 a5 a6 hk=> ?_
  exact hQ h' (qx h' false (.inl a1) a5 ⟨_,_,a2⟩ a3 a4 (lt hz) (lt Vw) hk) a5 a6 hk
 ·have hTy:s.TypeIs (.ref z) "zip":=⟨_,hz,rfl⟩
  refine ae (lz (fz (name:=aS "__next__") hTy F.slot_zip_next
   (dA F.slot_zip_next hTy F.entry_zip_next
    (DO D hz hT t.ti t.it1 t.it2 t.li1 t.li2 hx hy λh' a1 a2 a3 a4 a5 a6=>aj ?_) (F.args_zip_next_1 _))))
  have hk: ∀c o,c≠z->c≠TO->c≠i1->c≠i2->s.heap.get? c=aa o->h'.get? c=aa o:=λc o c1 z c3 c4 e=>a6 c o c1 c3 c4 e
  exact hQ h' (qx h' ai (.inr ⟨T,ai,oT,a1,a6 _ _ nz m1 m2 hT,nS,nz,nTO,m1,m2⟩) a4 ⟨a,b,a6 _ _ D.TOz D.TOi1 D.TOi2 Vw⟩ a2 a3 (lt hz) (lt Vw) hk) a4 a5 hk
theorem LI {z TI TO i1 i2 l1 l2 S:aF} {xs ys:Array ay} {i:Nat} {Q:Option ay->aq->Prop} (hh:A.handled=az) (D:i4 z TI TO i1 i2 l1 l2) (t:Dz s.heap z TI TO i1 i2 l1 l2 S xs ys i)
  (hx:xs[i]? =az) (hQ: ∀h',(∀c o,c≠z->c≠TO->c≠i1->c≠i2->s.heap.get? c=aa o->h'.get? c=aa o)->Q az {s with heap:=h'}):
  aC (aI prog w) A (l9 (.ref z)) Q E s:=by
 refine rU t.to λa b Vw=> ?_
 rcases t.zip with hz|⟨T,b',oT,hz,hT,nS,nz,nTO,m1,m2⟩
 ·exact wpAny_pyNext_zip_end hh D hz t.ti Vw t.it1 t.it2 t.li1 t.li2 (.inl hx) hQ
 ·have hTy:s.TypeIs (.ref z) "zip":=⟨_,hz,rfl⟩
  refine ae (lz (fz (name:=aS "__next__") hTy F.slot_zip_next
   (dA F.slot_zip_next hTy F.entry_zip_next (EM (A:=A.in1) hh D hz hT t.ti t.it1 t.li1 hx λh' e hk he=> ?_) (F.args_zip_next_1 _))))
  refine mX he λo ho hc=> ?_
  refine ae (jW (T:="StopIteration") (b:=ai) ⟨o,ho,hc⟩ isSubtype_stop ?_)
  exact aj (hQ _ λc o c1 z c3 z e=>hk c o c1 c3 e)
def BL (h:aW) (N:Nat) (xs ys:Array ay) (UD:Array ay) (i:Nat):Prop:=UD.size=i/\ ∀(j:Nat) (v:ay),UD[j]? =aa v-> ∃(T:aF) (x y:ay),v=jq T/\N<=T/\xs[j]? =aa x/\ys[j]? =aa y/\gZ h T x y
theorem BL.push (a:BL h N xs ys UD i) (hT:N<=T) (hx:xs[i]? =aa x) (hy:ys[i]? =aa y) (hp:gZ h T x y):BL h N xs ys (UD.push (.ref T)) (i+1):=by
 refine ⟨by rw [Array.size_push,a.1],λj v hj=> ?_⟩
 rw [Array.getElem?_push] at hj
 split at hj
 ·rename_i e;rw [a.1] at e;obtain rfl:=am hj;subst e;exact ⟨T,x,y,rfl,hT,hx,hy,hp⟩
 ·exact a.2 j v hj
theorem BL.keep {h h':aW} (a:BL h N xs ys UD i) (k: ∀c o,N<=c->h.get? c=aa o->h'.get? c=aa o):BL h' N xs ys UD i:=
 ⟨a.1,λj v hj=>let ⟨T,x,y,e,hN,h1,h2,hp⟩:=a.2 j v hj;⟨T,x,y,e,hN,h1,h2,k _ _ hN hp⟩⟩
theorem L9 {z TI TO i1 i2 l1 l2 S:aF} (hh:A.handled=az) (D:i4 z TI TO i1 i2 l1 l2) (hsz:xs.size=ys.size) (VA:xs.size<=bo)
  (hS:S≠z/\S≠TI/\S≠TO/\S≠i1/\S≠i2/\S≠l1/\S≠l2) (hN:z<N/\TO<N/\i1<N/\i2<N/\S<N):
  ∀(k i:Nat) (s:aq) (UD:Array ay) (c:Nat),xs.size - i=k->i<=xs.size->N<=s.heap.objs.size->Dz s.heap z TI TO i1 i2 l1 l2 S xs ys i->s.heap.get? S=aa {cls:=.type "list",dict:=az,data:=.seq UD c,slots:= #[]}->BL s.heap N xs ys UD i->
  (∀(h':aW) VB c',(∀b o,b≠S->b≠z->b≠TO->b≠i1->b≠i2->s.heap.get? b=aa o->h'.get? b=aa o)->h'.get? S=aa {cls:=.type "list",dict:=az,data:=.seq VB c',slots:= #[]}->BL h' N xs ys VB xs.size->R (.ok (.ret res)) {s with heap:=h'})->
  gx (aI prog w) A (.builtin "list.extend.loop" ⟨[.ref S,.ref z,res],[]⟩) R s:=by
 intro k
 induction k with
 |zero=>
  intro i s UD c hk hi hN2 U1 hS' Vr hR
  have V2:i=xs.size:=by exact (mK (.i (.e (.s xB xA) xJ) (.i (.l xA xB) (.e xA xB))) [_,_]) hk hi
  subst V2
  refine gq F.entry_extend_loop ?_
  rw [fG F.plain_extend_loop _]
  refine ae (LI (A:=A.in1) hh D U1 (by simp) λh' hk=> ?_)
  have hz:=hN.1;have Vw:=hN.2.1;have h1:=hN.2.2.1;have h2:=hN.2.2.2.1
  exact aj (hR h' UD c (λb o z b1 b2 b3 b4 e=>hk b o b1 b2 b3 b4 e) (hk _ _ hS.1 hS.2.2.1 hS.2.2.2.1 hS.2.2.2.2.1 hS') (Vr.keep λc o hc e=>hk c o (cZ (bg hz hc)) (cZ (bg Vw hc)) (cZ (bg h1 hc)) (cZ (bg h2 hc)) e))
 |succ k ih=>
  intro i s UD c hk hi hN2 U1 hS' Vr hR
  have Ux:i<xs.size:=by exact (mK (.i (.e (.s xB xA) (.a xC xI)) (.b xA xB)) [_,_,_]) hk
  refine gq F.entry_extend_loop ?_
  rw [fG F.plain_extend_loop _]
  have hz:=hN.1;have Vw:=hN.2.1;have h1:=hN.2.2.1;have h2:=hN.2.2.2.1;have hSN:=hN.2.2.2.2
  have hx:=eK Ux
  have hy:=eK (show i<ys.size by exact (mK (.i (.e xC xB) (.i (.b xA xC) (.b xA xB))) [_,_,_]) hsz Ux)
  refine ae (Mi (A:=A.in1) D U1 (aR hS') hx hy λh' hst' hp WI XN=> ?_)
  have hS2:=XN _ _ hS.1 hS.2.2.1 hS.2.2.2.1 hS.2.2.2.2.1 hS'
  refine ae ?_
  have up: ∀b o,b≠S->h'.get? b=aa o->(h'.update S (fK (·.push (.ref s.heap.objs.size)))).get? b=aa o:=λb o hb e=>(df _ _ (Ne.symm hb)).trans e
  have hacc':=(Vr.keep λc o hc e=>XN c o (cZ (bg hz hc)) (cZ (bg Vw hc)) (cZ (bg h1 hc)) (cZ (bg h2 hc)) e).push hN2 hx hy hp
  refine fg hS2 rfl (aj ⟨jw F.plain_extend_loop _,ih (i+1) _ (UD.push (.ref s.heap.objs.size)) _ (by exact (mK (.i (.e (.s xA xB) (.a xC xI)) (.e (.s xA (.a xB xI)) xC)) [_,_,_]) hk) Ux ?_ (hst'.keep up hS) (cr _ hS2 rfl) (hacc'.keep λc o hc e=>up c o (cZ (bg hSN hc)) e) λWG VB c' hk'' hS3 Xp=> ?_⟩)
   (by rw [Vr.1];exact (mK (.i (.l xC xB) (.i (.b xA xC) (.l xA xB))) [_,_,_]) VA Ux) (by rw [Array.size_push,Vr.1];exact (mK (.i (.l xC xB) (.i (.b xA xC) (.l (.a xA xI) (.a xB xI)))) [_,_,_]) VA Ux)
  ·show N<=(h'.update S _).objs.size
   rw [gN,WI];exact (mK (.i (.l xA xB) (.l xA (.a xB xI))) [_,_]) hN2
  ·exact hR WG VB c' (λb o b0 b1 b2 b3 b4 e=>hk'' b o b0 b1 b2 b3 b4 (up b o b0 (XN b o b1 b2 b3 b4 e))) hS3 Xp
theorem IV:fu (.type "zip") "__len__"=bG az:=by rw [cz,bA];kernel_rfl
theorem Gn:fu (.type "zip") "__length_hint__"=bG az:=by rw [cz,bA];kernel_rfl
theorem DM {Q:ay->aq->Prop} (hh:A.handled=az) (D:i4 z TI TO i1 i2 l1 l2) (hsz:xs.size=ys.size) (VA:xs.size<=bo)
  (hz:IsZip s.heap z TI TO .none) (ti:gZ s.heap TI (.ref i1) (.ref i2)) (Vw: ∃a b,gZ s.heap TO a b) (it1:s.heap.IsListIter i1 l1 0) (it2:s.heap.IsListIter i2 l2 0) (li1:s.heap.IsList l1 xs) (li2:s.heap.IsList l2 ys)
  (hQ: ∀(h':aW) VB c',(∀b o,b≠z->b≠TO->b≠i1->b≠i2->s.heap.get? b=aa o->h'.get? b=aa o)->h'.get? s.heap.objs.size=aa {cls:=.type "list",dict:=az,data:=.seq VB c',slots:= #[]}->
   BL h' (s.heap.objs.size+1) xs ys VB xs.size->Q (.ref s.heap.objs.size) {s with heap:=h'}):
  aC (aI prog w) A (ft (.type "list") [.ref z]) Q E s:=by
 have lt: ∀{c o},s.heap.get? c=aa o->s.heap.objs.size≠c:=λe=>cZ (aR e)
 have lt': ∀{c o},s.heap.get? c=aa o->c<s.heap.objs.size+1:=λe=>gH (aR e)
 refine rU Vw λa b Vw=> ?_
 refine mX (id it1) λo1 e1 y=> ?_
 refine mX (id it2) λo2 e2 y=> ?_
 refine mX (id li1) λo3 e3 y=> ?_
 refine mX (id li2) λo4 e4 y=> ?_
 refine callType_codes (Q₁:=λobj Ua=>obj= .ref s.heap.objs.size/\Ua={s with heap:=s.heap.push {cls:=.type "list",data:=.seq #[]}}) F.called_list (F.typeCall_list_1 _) F.entry_list_init
  (code_list_new _ ⟨rfl,rfl⟩) λobj Ua Ul=> ?_
 refine eA Ul ?_;clear Ul;intro Ub q2z;obtain rfl:=Ub;obtain rfl:=q2z
 have hS:(s.heap.push {cls:=.type "list",data:=.seq #[]}).get? s.heap.objs.size=aa {cls:=.type "list",data:=.seq #[]}:=av _ rfl
 refine ⟨⟨_,hS,rfl⟩,F.args_list_init_2 _ _,?_⟩
 have pk: ∀c o,s.heap.get? c=aa o->(s.heap.push {cls:=.type "list",data:=.seq #[]}).get? c=aa o:=λc o e=>aO _ e
 have hzT: ∀s':aq,IsZip s'.heap z TI TO .none->s'.TypeIs (.ref z) "zip":=λs' h=>⟨_,h,rfl⟩
 refine ae ?_
 refine ae (dY hS rfl (aj ?_))
 refine ae (fg hS rfl ?_)
 have Xc:=cr (fK (λy=>(#[]:Array ay))) hS rfl
 have up2: ∀c o,s.heap.get? c=aa o->((s.heap.push {cls:=.type "list",data:=.seq #[]}).update s.heap.objs.size (fK (λy=>(#[]:Array ay)))).get? c=aa o:=λc o e=>(df _ _ (lt e)).trans (pk c o e)
 refine ae (wpAny_letGo ?_)
 refine ae (wpAny_typeOf (hzT _ (up2 _ _ hz)) ?_)
 have h1:jm (.ref s.heap.objs.size) (.ref z)=false:=by simp [jm,lt hz]
 have h2:(du "zip"==du "list")=false:=by decide
 have h3:(du "zip"==du "tuple")=false:=by decide
 simp only [h1,h2,h3,iM,a9,if_false]
 refine ae (wpAny_pyIter_zip (up2 _ _ hz) ?_)
 refine ae (bL ?_)
 refine ae (fh (hzT _ (up2 _ _ hz)) IV ?_)
 refine ae (fh (hzT _ (up2 _ _ hz)) Gn ?_)
 refine aj ?_
 show aC _ A.in1.in1 (rule "list.extend.makes-room" >>= λy=>Builtin.List.listTouch (.ref s.heap.objs.size) >>= λy=>
  again (.builtin "list.extend.loop" ⟨[.ref s.heap.objs.size,.ref z,.none],[]⟩)) _ _ _
 refine ae (gK ?_)
 refine ae ?_
 refine ae (fg Xc rfl ?_)
 have W8:=cr (fK (·.push iJ)) Xc rfl
 refine fg (hz:=by seq_fits) W8 rfl ?_
 have hS₄:=cr (fK (·.pop)) W8 rfl
 have up4: ∀c o,s.heap.get? c=aa o->((((s.heap.push {cls:=.type "list",data:=.seq #[]}).update s.heap.objs.size (fK (λz=>(#[]:Array ay)))).update s.heap.objs.size (fK (·.push iJ))).update s.heap.objs.size (fK (·.pop))).get? c=aa o:=λc o e=>
  (df _ _ (lt e)).trans ((df _ _ (lt e)).trans (up2 c o e))
 refine aj ⟨jw F.plain_extend_loop _,L9 (A:=A.in1) (N:=s.heap.objs.size+1) hh D hsz VA ⟨lt hz,lt ti,lt Vw,lt e1,lt e2,lt e3,lt e4⟩ ⟨lt' hz,lt' Vw,lt' e1,lt' e2,dw _⟩ (xs.size - 0) 0 _ _ _ rfl (cx _) ?_
  ⟨up4 _ _ ti,⟨a,b,up4 _ _ Vw⟩,it1.at λo e=>up4 _ o e,it2.at λo e=>up4 _ o e,li1.at λo e=>up4 _ o e,li2.at λo e=>up4 _ o e,.inl (up4 _ _ hz)⟩ hS₄ ⟨rfl,λj v h=>by simp at h⟩ λh' VB c' hk hS5 Vr=> ?_⟩
 ·show s.heap.objs.size+1<=_
  rw [gN,gN,gN,cw]
  exact aN _
 ·exact ⟨rfl,hQ h' VB c' (λb o b1 b2 b3 b4 e=>hk b o (lt e).symm b1 b2 b3 b4 (up4 b o e)) hS5 Vr⟩
end
section
variable {prog:aG} {w:au} {c:Sc} {σ:m7} {Λ:List (aF×List PV)}
theorem GQ: ∀{ps:List PV} {vs:List ay},vs.length=ps.length->(∀(j:Nat) (p:PV) (v:ay),ps[j]? =aa p->vs[j]? =aa v->mV X h p v)->mR X h ps vs
 |[],vs,e,_=>by
  have:vs=[]:=aY.mp e
  subst this;exact mR.nil
 |p::ps,[],e,_=>by cases e
 |p::ps,v::vs,e,k=>mR.cons (k 0 p v rfl rfl) (GQ (by simpa using e) λj q u e1 e2=>k (j+1) q u e1 e2)
theorem F7 (hf:Ev prog w (fs c σ Λ) (.Name "list" np) (.raw (.type "list"))) (he:Fh prog w (fs c σ Λ) e "zip" [.list ps,.list qs]) (hh:c.A.handled=az) (hsz:ps.length=qs.length) (VA:ps.length<=100000)
  (U1:autoParam (aE [e] c.env=(false,bJ e c.env)::aE [] c.env) X1):Ev prog w (fs c σ Λ) (.Call (.Name "list" np) [e] [] pos) (.list (ji (λp q=>.tup [p,q]) ps qs)):=.mk λs i=>by
 have hz0:=aw
 refine cm (ab (hf.run s i) (λv VG uu=>eA uu λUU WV=> ?_) λz z e=>e)
 subst WV
 have Vf:=i.mono (mN UU)
 refine nQ (qv (cB (he.run VG Vf _ λUa vs Uc r=> ?_) U1) U1)
 refine nu (sW r) λv u Ub r1 r2=> ?_;obtain rfl:=Ub
 refine nw (pL r1) λl1 xs Ub hX1 li1 rs1=> ?_;obtain rfl:=Ub
 refine nw (pL r2) λl2 ys Ub hX2 li2 rs2=> ?_;obtain rfl:=Ub
 have e1:=li1
 have e2:=li2
 refine mX e1 λo1 g1 z=> ?_
 refine mX e2 λo2 g2 z=> ?_
 have lt1: @kD Nat _ l1 Ua.heap.objs.size:=aR g1
 have lt2: @kD Nat _ l2 Ua.heap.objs.size:=aR g2
 refine call_zip_2 li1 li2 λh' hz Xs Vw hI hI' hs5 hk=> ?_
 refine cG ?_
 refine ⟨um,?_⟩
 have Ue:bB Ua {Ua with heap:=h'}:=⟨h',Ua.toks,rfl,hk⟩
 have Uj:=Vf.mono (mN Uc)
 generalize hN:Ua.heap.objs.size=N at*
 have D:i4 (N+4) (N+2) (N+3) N (N+1) l1 l2:=⟨pn (by exact mK (.o (.b (.a xA xM) (.a xA xK)) (.b (.a xA xK) (.a xA xM))) [_]),pn (by exact mK (.o (.b (.a xA xO) (.a xA xK)) (.b (.a xA xK) (.a xA xO))) [_]),pn (by exact mK (.o (.b xA (.a xA xK)) (.b (.a xA xK) xA)) [_]),pn (by exact mK (.o (.b (.a xA xI) (.a xA xK)) (.b (.a xA xK) (.a xA xI))) [_]),pn (by exact mK (.o (.b (.a xA xM) (.a xA xO)) (.b (.a xA xO) (.a xA xM))) [_]),pn (by exact mK (.o (.b (.a xA xM) xA) (.b xA (.a xA xM))) [_]),pn (by exact mK (.o (.b (.a xA xM) (.a xA xI)) (.b (.a xA xI) (.a xA xM))) [_]),pn (by exact mK (.o (.b (.a xA xO) xA) (.b xA (.a xA xO))) [_]),pn (by exact mK (.o (.b (.a xA xO) (.a xA xI)) (.b (.a xA xI) (.a xA xO))) [_]),pn (by exact mK (.o (.b xA (.a xA xI)) (.b (.a xA xI) xA)) [_]),pn (by exact (mK (.i (.b xA xB) (.o (.b xA (.a xB xK)) (.b (.a xB xK) xA))) [_,_]) lt1),pn (by exact (mK (.i (.b xA xB) (.o (.b xA (.a xB xO)) (.b (.a xB xO) xA))) [_,_]) lt1),pn (by exact (mK (.i (.b xA xB) (.o (.b xA xB) (.b xB xA))) [_,_]) lt1),pn (by exact (mK (.i (.b xA xB) (.o (.b xA (.a xB xI)) (.b (.a xB xI) xA))) [_,_]) lt1),pn (by exact (mK (.i (.b xA xB) (.o (.b xA (.a xB xK)) (.b (.a xB xK) xA))) [_,_]) lt2),pn (by exact (mK (.i (.b xA xB) (.o (.b xA (.a xB xO)) (.b (.a xB xO) xA))) [_,_]) lt2),pn (by exact (mK (.i (.b xA xB) (.o (.b xA xB) (.b xB xA))) [_,_]) lt2),pn (by exact (mK (.i (.b xA xB) (.o (.b xA (.a xB xI)) (.b (.a xB xI) xA))) [_,_]) lt2)⟩
 have hx:xs.length=ps.length:=rs1.len
 have hy:ys.length=qs.length:=rs2.len
 refine DM hh D (by simp;exact (mK (.i (.e xC xD) (.i (.e xA xC) (.i (.e xB xD) (.e xA xB)))) [_,_,_,_]) hsz hx hy) (by simp;exact (mK (.i (.l xC (.c 100000)) (.i (.e xB xL) (.i (.e xA xC) (.l xA xB)))) [_,_,_]) VA hz0 hx) hz Xs ⟨_,_,Vw⟩ hI hI' (li1.at λo e=>hk _ _ e) (li2.at λo e=>hk _ _ e) λWG UD c' XR hS Vr=> ?_
 have kk:m4 Ua.heap WG:=λb o e=>by
  have hb: @kD Nat _ b N:=by exact hN▸(aR e)
  exact XR b o (pn (by exact (mK (.i (.b xA xB) (.o (.b xA (.a xB xK)) (.b (.a xB xK) xA))) [_,_]) hb)) (pn (by exact (mK (.i (.b xA xB) (.o (.b xA (.a xB xO)) (.b (.a xB xO) xA))) [_,_]) hb)) (pn (by exact (mK (.i (.b xA xB) (.o (.b xA xB) (.b xB xA))) [_,_]) hb)) (pn (by exact (mK (.i (.b xA xB) (.o (.b xA (.a xB xI)) (.b (.a xB xI) xA))) [_,_]) hb)) (hk b o e)
 refine ⟨mO UU (mO Uc ⟨WG,Ua.toks,rfl,kk⟩),?_⟩
 have nX: ∀b:Nat,N<=b->b∉c.X:=λb hb q=>by
  obtain ⟨o,e⟩:=Uj.liveAll _ q
  have: @kD Nat _ b Ua.heap.objs.size:=aR e
  exact (mK (.i (.e xA xB) (.i (.l xB xC) (.n (.b xC xA)))) [_,_,_]) hN hb this
 have Uo:=Vr.1
 refine uK (vs:=UD.toList) (nX _ (by exact (mK (.i (.e xB (.a xA xN)) (.l xA xB)) [_,_]) hs5)) ⟨_,hS,rfl,c',rfl⟩ (GQ (by simp;simp at Uo;exact (mK (.i (.e xB xC) (.i (.e xD xB) (.i (.e xA xD) (.e xA (.n xB xC))))) [_,_,_,_]) hsz hx Uo) λj p v e1 e2=> ?_)
 rw [lb] at e1
 refine uR (Vr.2 j v (by simpa using e2)) λT x y Ub hT hxj hyj hp=> ?_;obtain rfl:=Ub
 cases h1:ps[j]? with
 |none=>rw [h1] at e1;exact nE e1
 |some p1=>
  cases h2:qs[j]? with
  |none=>rw [h1,h2] at e1;exact nE e1
  |some p2=>
   rw [h1,h2] at e1;obtain rfl:=am e1
   have hT':h'.objs.size+1<=T:=hT
   exact EI (vs:=[x,y]) (nX _ (by exact (mK (.i (.e xC (.a xA xN)) (.i (.l (.a xC xI) xB) (.l xA xB))) [_,_,_]) hs5 hT')) ⟨_,hp,rfl,0,rfl⟩ (mR.cons ((rs1.get' h1 hxj).keep kk) (mR.cons ((rs2.get' h2 hyj).keep kk) mR.nil))
end
section
variable {prog:aG} {w:au} {c:Sc} {σ:m7} {Λ:List (aF×List PV)}
theorem JZ (hP:h.get? P=aa (ei vs)):Mv X (P::X) h h:=λa o ha e n=>⟨λhb=>(ao.mp hb).elim (λq=>by rw [q,hP] at e;obtain rfl:=am e;exact n _ rfl) ha,e⟩
noncomputable def Sc.hide (c:Sc) (P:aF):Sc:={c with g:=hideAll c.g [P],own:=P::c.own}
theorem sB (nb:b≠P) (e:h.get? b=aa o):(hideAll h [P]).get? b=aa o:=bS _ e λq=>nb (ak.mp q)
theorem In.hideP (i:In c σ Λ h) (hP:h.get? P=aa (ei vs)) (hn:P∉c.own):In (c.hide P) σ Λ h:=
 i.gen (λb o e=>i.keep b o (bU _ e)) (λa ha=>(ao.mp ha).elim (λq=>dK _ (q▸ .head _)) λq=>pw (i.fresh a q))
  (λa ha=>(ao.mp ha).elim (λq=>⟨_,q▸hP⟩) (i.live a)) i.liveX (.tail _ i.locOwn) (λz n=>n) (λz z z e z=>e) (JZ hP) (i.li (λz h=>.tail _ h) (λz z z z e=>e) (JZ hP))
theorem In.slots (i:In c σ Λ h) (k: ∀b o,b≠c.env.locals->h.get? b=aa o->h'.get? b=aa o) (u:h.UpToSlots h'):In c σ Λ h':=by
 obtain ⟨m,n,hm⟩:=i.loc
 have kX:Mv c.X c.X h h':=λb o nb e z=>⟨nb,k b o (λq=>nb (q▸ax _ i.locOwn)) e⟩
 have lv: ∀a,(∃o,h.get? a=aa o)-> ∃o,h'.get? a=aa o:=λa uu=>eE uu λo e=>(gz (a=c.env.locals)).elim (λq=>by
  subst q;refine wK (u.ns n) λo z z e z=> ?_;exact ⟨o,e⟩) λq=>⟨o,k _ _ q e⟩
 exact i.gen (λb o e=>k b o (λq=>nomatch (i.fresh _ (q▸i.locOwn)).symm.trans e) (i.keep b o e)) i.fresh (λa ha=>lv a (i.live a ha)) (λa ha=>lv a (i.liveX a ha)) i.locOwn (λm n=>u.ns n)
  (λb o q e z=>k b o q e) kX (i.li (λz h=>h) (λb o q z e=>k b o q e) kX)
end
end
section
open PySem.Calls PyProof.Rows PySem.Builtin.Str
section
variable {w:au} {c:Sc} {σ:m7} {Λ:List (aF×List PV)}
theorem CK (G:Gd w 3 c) (ho:tO mJ w (fs c σ Λ) o (sn l c.X)) (hl:E9 l) (hx:autoParam (c.env.kindOf "str"=aa .globalImplicit) X1)
  (U1:autoParam (aE [o] c.env=(false,bJ o c.env)::aE [] c.env) X1):Ev mJ w (fs c σ Λ) (.Call (.Name "str" np) [o] [] pos) (.str (S (oI l))):=.mk λs i=>by
 refine cm (ab ((r6 G (v:=.type "str") (by kernel_rfl) (by kernel_rfl) (by decide+kernel) hx).run s i) (λv Ua uu=>eA uu λUc Uf=> ?_) λz z e=>e)
 subst Uf
 have Uj:=i.mono (mN Uc)
 refine nQ (qv (cB (ab (ho.run Ua Uj) (λv Ud uu=>o8 uu λUe a e hH=> ?_) λz z e=>e) U1) U1)
 subst e
 have Ui:=Uj.mono (mN Ue)
 refine cG ⟨um,?_⟩
 refine rU hH.at' λd D t=> ?_
 refine tL (vQ t) λW1 I e1 e2=> ?_
 have r2:pG 2 c.A.in1:=G.room.in1
 have r1:pG 1 c.A.in1.in1:=r2.in1
 refine kso_call (K:=KB w.params) (f:=269) (by have:=r1.2.2;exact (mK (.i (.b (.a (.a xA (.m 10 xI)) xP) xB) (.b xA xB)) [_,_]) this) (G.inBase _ Ui).frag I (by kernel_rfl) (by kernel_rfl) ?_
 refine ab (JX hl c.A.in1.in1 c.X (λh=>In c σ Λ h/\sn l c.X h a) a r1 (λh i=>G.inBase h i.1) (G.offX Ui) (λh i=>i.2) Ud [.ref a] [] ⟨Ui,hH⟩ Ui.liveAll (mR.cons pi mR.nil) mR.nil) (λv Uk uu=>eA uu λUm Ut=> ?_) λz z e=>e
 refine eE (nG Ut) λtk Ub=> ?_;obtain rfl:=Ub
 exact ⟨mO Uc (mO Ue Um),ou⟩
end
section
variable {w:au} {c:Sc} {σ:m7} {Λ:List (aF×List PV)}
theorem In.turnP {h h':aW} (i:In c σ Λ h) (ho:P∈c.own) (hP:h.get? P=aa (ei ps)) (hP':h'.get? P=aa (ei ps')) (k: ∀b o,b≠P->h.get? b=aa o->h'.get? b=aa o):In c σ Λ h':=by
 have kX:Mv c.X c.X h h':=λb o nb e z=>⟨nb,k b o (λq=>nb (q▸ax _ ho)) e⟩
 have lv: ∀a,(∃o,h.get? a=aa o)-> ∃o,h'.get? a=aa o:=λa uu=>eE uu λo e=>(gz (a=P)).elim (λq=>⟨_,q▸hP'⟩) λq=>⟨o,k _ _ q e⟩
 have nd: ∀{a:aF} {o:Obj},h.get? a=aa o->(∀vs,o.data≠ .fields vs)->h'.get? a=aa o:=λe n=>k _ _ (λq=>by
  subst q;rw [hP] at e;obtain rfl:=am e;exact n _ rfl) e
 exact i.gen (λb o e=>k b o (λq=>nomatch (i.fresh _ (q▸ho)).symm.trans e) (i.keep b o e)) i.fresh (λa ha=>lv a (i.live a ha)) (λa ha=>lv a (i.liveX a ha)) i.locOwn
  (λm n=>let ⟨o,es,ep,e,d,r⟩:=n;⟨o,es,ep,nd e (λz q=>nomatch d.symm.trans q),d,r⟩) (λb o z e q2=>nd e λz q=>eE q2 λz q2=>nomatch q2.symm.trans q) kX
  (λq hq=>let ⟨a,us,⟨n,e⟩,r⟩:=i.lists q hq;⟨a,us,⟨n,nd e λz q=>nomatch q⟩,r.gen kX⟩)
end
def Bm (h:aW):Prop:= ∃o,h.get? 4=aa o/\o.cls= .type "module"/\o.dict=aa dh/\o.data= .plain
theorem N3 (b:ox P h):CodeHd h 332 330:=
 ⟨_,_,_,_,_,_,_,_,_,b.frag 332 (D9 NQ) (by kernel_rfl),rfl,rfl,rfl,rfl,rfl,rfl,rfl,rfl,by decide⟩
section
variable {w:au} {A:aX} {g:aW} {L D:aF} {σ:m7} {Λ:List (aF×List PV)}
abbrev cW (A:aX) (g:aW) (L D:aF):Sc:=((m5 pH 333 A [] [] g L).addOwn D).hide 330
noncomputable abbrev Ek (scope:Scope) (L f c':aF) (clos:List (Str×aF)) (c:Sc):Env:=envX (c.env.qual++"<lambda>") scope L f (.ref c') clos
theorem Eu (hA:A.frames=aa []) (G:Gd w 5 (cW A g L D)) (Xo:Bm (cW A g L D).g)
  (i:In (cW A g L D) σ Λ s.heap) (hP:s.heap.get? 330=aa (ei ps)) (ht:TriplesOk ps.toList) (hnf:codeAmong lpos ps.toList=az)
  (hdef:defaultsOf params (cW A g L D).env=([],[])) (U7:gL scope (cW A g L D).env=bG clos)
  (Uv: ∀pm c' Wt,ey (kla_fn "<lambda>" ((cW A g L D).env.qual++"<lambda>") params body scope clos pm (.ref c') Wt) ⟨[],[]⟩=bG []) (Ww: ∀x∈scope.names,x.2≠ .cell) (XC:vG (cW A g L D).env.cells clos)
  (hσ: ∀x p,σf.lookup x=aa p->scope.names.lookup x=aa .free/\(x==("__classdict__":Str))=false/\(clos.lookup x).isSome=ai/\σ.lookup x=aa p/\(cW A g L D).env.kindOf x=aa .cell)
  (hbody: ∀(base:aW) (outer:List Env) (A':aX) (g':aW) (L' f c':aF),Gd w 3 ⟨Ek scope L' f c' clos (cW A g L D),A',g',[L'],[]⟩->sQ ⟨Ek scope L' f c' clos (cW A g L D),A',g',[L'],[]⟩ base outer->KI mJ w ⟨Ek scope L' f c' clos (cW A g L D),A',g',[L'],[]⟩ σf [] base outer m body)
  (hco:autoParam (scope.isCoroutine=false) X1) (Xu:autoParam (scope.isGenerator=false) X1) (hk:autoParam (scope.kind= .function) X1)
  (U1:autoParam (aE [.Lambda params body scope lpos] (cW A g L D).env=(false,bJ (.Lambda params body scope lpos) (cW A g L D).env)::aE [] (cW A g L D).env) X1):
  aC (aI mJ w) (cW A g L D).A (bJ (.Call (.Name "_law_refused" np) [.Lambda params body scope lpos] [] pos) (cW A g L D).env)
   (λv s'=>nK s s'/\In (cW A g L D) σ Λ s'.heap/\(∃tk,v= .str m tk)/\ ∃c2:aF,s'.heap.get? 330=aa (ei (ps++ #[eQ lpos.line,eQ lpos.col,.ref c2]))) (λz z=>False) s:=by
 refine cm (ab ((ul G (v:=.ref 328) (by kernel_rfl) (by rfl)).run s i) (λv Ua uu=>eA uu λUc Uf=> ?_) λz z e=>e)
 subst Uf
 have Uj:=i.mono (mN Uc)
 have hP1:=mN Uc _ _ hP
 have Wj:=G.inBase _ Uj
 obtain ⟨mg,nmg,emg⟩:B6 Ua.heap "__builtins__" (.ref 4):=Wj.glob (by kernel_rfl)
 refine Sa Xo λob b1 b2 b3 b4=> ?_
 refine nQ (qv (cB (kla_eval hdef (kla_makeFunction (c:=332) (P:=330) (mg:=mg) U7 rfl nmg rfl (N3 Wj) hP1 ht hnf (by decide) ⟨4,ob,emg,by decide,by decide,by decide,Uj.keep _ _ b1,b2,b3,b4⟩ λc' Wt h' tk hx hge Ux hrec WU=> ?_)) U1) U1)
 refine cG ?_
 have np: ∀b o,b≠330->Ua.heap.get? b=aa o->(h'.push (jd "<lambda>" ((cW A g L D).env.qual++"<lambda>") params body scope clos ((mg "__name__").getD .none) c' Wt)).get? b=aa o:=λb o nb e=>aO _ (hx b o nb e)
 have Ui:=Uj.turnP (.head _) hP1 (aO (jd "<lambda>" ((cW A g L D).env.qual++"<lambda>") params body scope clos ((mg "__name__").getD .none) c' Wt) WU) np
 have hf:(h'.push (jd "<lambda>" ((cW A g L D).env.qual++"<lambda>") params body scope clos ((mg "__name__").getD .none) c' Wt)).get? h'.objs.size=aa (jd "<lambda>" ((cW A g L D).env.qual++"<lambda>") params body scope clos ((mg "__name__").getD .none) c' Wt):=av _ rfl
 have hcr:(h'.push (jd "<lambda>" ((cW A g L D).env.qual++"<lambda>") params body scope clos ((mg "__name__").getD .none) c' Wt)).CodeRec (.ref c') ((cW A g L D).env.qual++"<lambda>"):=hrec.keeps λb o e=>aO _ e
 have hP2:(h'.push (jd "<lambda>" ((cW A g L D).env.qual++"<lambda>") params body scope clos ((mg "__name__").getD .none) c' Wt)).get? 330=_:=aO _ WU
 generalize h'.push (jd "<lambda>" ((cW A g L D).env.qual++"<lambda>") params body scope clos ((mg "__name__").getD .none) c' Wt)=H at*
 generalize h'.objs.size=f at*
 have Xe:=G.inBase H Ui
 refine ⟨rE (fd:=qH) (Xe.frag 328 (fo qH) (by kernel_rfl)) rfl,?_⟩
 refine mX Ui.loc λmL nL z=> ?_
 have nL:H.Ns L mL:=nL
 have hb0:m4 (cW A g L D).g (hideAll H [L]):=λb o e=>sB (λq=>by
  have:=Ui.fresh L (.tail _ (.tail _ (.head _)))
  rw [q,this] at e;exact nE e) (Ui.keep b o e)
 have Bw:j6 (cW A g L D).A (hideAll H [L]) [(cW A g L D).env] H:=⟨fH hA,λb o e=>bU _ e,.cons (by show pH.scope.kind≠ .module;decide+kernel) rfl nL (dK _ (.head _)) trivial⟩
 have rr:pG 5 (cW A g L D).A:=G.room
 refine ab (Fi (base:=hideAll H [L]) (outer:=[(cW A g L D).env]) (m:=m) (X:=[]) (rr.less (by exact mK (.l xI xN) [] [])) Xe (G.base.keep hb0) (λz h=>nomatch h) Bw ⟨_,_,hf,rfl⟩ λenv s' ks bw=> ?_) (λv Uk uu=>Ct uu λV8 st3 u₃ hv=> ?_) λz z e=>e
 ·have rd:pG 4 ((cW A g L D).A.deeper env):=rr.deeper env
  have Bs:ox w.params s'.heap:=Xe.keep ks
  have VP: ∀x b,clos.lookup x=aa b->(cW A g L D).env.cells.lookup x=aa b:=λx b e=>vG.mem XC (x,b) (mem_of_lookup e)
  refine KE (X:=[]) (σ:=σf) rd.lim Bs.lim (λz h=>nomatch h) (ks _ _ hf) (hcr.keeps ks) (Uv _ _ _) Ww (λx p e=> ?_) (λx b e=> ?_) bw (λL' b=> ?_) hco Xu hk
  ·refine Np (hσ x p e) λe1 e2 e3 e4 e5=> ?_
   refine eE (jR.mp e3) λb e6=> ?_
   refine nu (Ui.cel x p (.inl e5) e4) λb' v q1 q2 q3=> ?_
   have:b'=b:=by rw [VP x b e6] at q1;exact (am q1).symm
   subst this
   exact ⟨e1,e2,b',v,e6,q2.keeps ks,(q3.sub (Y:=[]) λz h=>nomatch h).keep ks⟩
  ·obtain ⟨v,q⟩:=Ui.cob x b (VP x b e)
   exact ⟨v,q.keeps ks⟩
  ·exact hbody _ _ _ _ _ _ _ ⟨Bs,(λz h=>nomatch h),rd.deeper _,hk,rfl,rfl⟩ b
 ·have nl: ∀b o,b≠L->H.get? b=aa o->Uk.heap.get? b=aa o:=λb o nb e=>st3 b o (sB nb e)
  have Us:=Ui.slots (h':=Uk.heap) nl u₃
  refine o6 Uc ?_;clear Uc;intro Ul Vo Ub _;obtain rfl:=Ub
  refine rU V8 ?_;clear V8;intro Uy VJ Ub;obtain rfl:=Ub
  refine ⟨⟨_,_,rfl⟩,Us,hv,c',nl 330 _ (λq=> ?_) hP2⟩
  obtain ⟨o,es,ep,e1,e2,_⟩:=nL
  rw [<-q,hP2] at e1;obtain rfl:=am e1;cases e2
end
def nI:List eh:=n7 (nV 50)
theorem ox.hideP (b:ox P h) (hP:h.get? 330=aa (ei ps)):ox P (hideAll h [330]):=by
 have hn:(KB P).lookup 330=az:=by kernel_rfl
 refine ⟨λd o e=>sB (λq=>by rw [q,hn] at e;exact nE e) (b.frag d o e),b.lim.at λo e=>sB (by decide) e,?_⟩
 refine mX b.blt λmb n r=> ?_
 exact ⟨mb,n.at' λo e=>sB (by decide) e,r⟩
theorem OJ: ∃c∈oI l,vf c=ai:=by
 refine ⟨10,?_,by decide+kernel⟩
 rw [vL]
 simp
theorem Bv {x y:Str} {p q:PV} (e:aD x [(y,p)]=aa q):x=y/\q=p:=by
 by_cases h:x=y
 ·subst h;simp [aD] at e;exact ⟨rfl,e.symm⟩
 ·have:(x==y)=false:=by simpa using h
  simp [aD,this] at e
theorem Jf {x y z:Str} {p q r:PV} (e:aD x [(y,p),(z,r)]=aa q):(x=y/\q=p)\/(x=z/\q=r):=by
 by_cases h:x=y
 ·subst h;simp [aD] at e;exact .inl ⟨rfl,e.symm⟩
 ·have:(x==y)=false:=by simpa using h
  rw [aD,this] at e
  exact .inr (Bv e)
section
variable {w:au} {A:aX} {g:aW} {L D:aF} {σ:m7} {Λ:List (aF×List PV)}
abbrev cV (A:aX) (g:aW) (L D:aF):Sc:=(m5 pH 333 A [] [] g L).addOwn D
theorem SX:((m5 pH 333 A [] [] g L).addOwn D).at g'=cV A g' L D:=rfl
theorem In.unhide {c:Sc} (i:In (c.hide P) σ Λ h) (hn:P∉c.own) (hP:h.get? P=aa (ei vs)) (hl:c.env.locals∈c.own):In (c.at (hideAll h c.own)) σ Λ h:=
 have kX:Mv (c.hide P).X c.X h h:=λb o nb e z=>⟨λq=>nb (.tail _ q),e⟩
 i.gen (λb o e=>bU _ e) (λa ha=>dK _ ha) (λa ha=>i.live a (.tail _ ha)) i.liveX hl (λz n=>n) (λz z z e z=>e) kX
  λq hq=>let ⟨a,us,b,r⟩:=i.lists q hq;⟨(ao.mp a).elim (λe=>by
   obtain ⟨_,e2⟩:=b
   rw [e,hP] at e2;cases e2) id,us,b,r.gen kX⟩
theorem Gd.hideP (G:Gd w n c) (hP:c.g.get? 330=aa (ei ps)):Gd w n (c.hide 330):=⟨G.base.hideP hP,G.off,G.room,G.fn,G.gl,G.bl⟩
set_option maxHeartbeats 1000000 in
theorem Ko (hA:A.frames=aa []) (G:Gd w 5 ((m5 pH 333 A [] [] g L).addOwn D)) (Xo:Bm g) (hT:g.get? 330=aa (ei #[])) (hD:D≠330)
  (hb:aD ("book":Str) σ=aa (PV.hdr (hp l))) (hl:E9 l) (Uo:(oI l).length<=1000) (hs:aD ("struck":Str) σ=aa (PV.inst D))
  (hrest: ∀g',m4 (hideAll g [330]) g'->(∃ps,g'.get? 330=aa (ei ps))->Gd w 5 (cV A g' L D)->mZ mJ w (cV A g' L D).env (cV A g' L D).A (In (cV A g' L D) (("words",.list [.str xu,.str w5])::σ) Λ) rest J):
  mZ mJ w ((m5 pH 333 A [] [] g L).addOwn D).env ((m5 pH 333 A [] [] g L).addOwn D).A (In ((m5 pH 333 A [] [] g L).addOwn D) σ Λ) (nB nI 11::rest) J:=.mk λs i=>by
 have GW:Gd w 5 (cW A g L D):=G.hideP (c:=(m5 pH 333 A [] [] g L).addOwn D) hT
 have hbm':Bm (cW A g L D).g:=let ⟨o,e,r⟩:=Xo;⟨o,sB (by decide) e,r⟩
 have hn:(330:aF)∉((m5 pH 333 A [] [] g L).addOwn D).own:=λq=>by
  rcases ao.mp q with q|q
  ·exact hD q.symm
  ·have h0:=i.fresh 330 (.tail _ q)
   have h0:g.get? 330=az:=h0
   rw [hT] at h0;exact tJ h0
 have iW:In (cW A g L D) σ Λ s.heap:=i.hideP (i.keep _ _ hT) hn
 have hP:=i.keep _ _ hT
 clear i
 rw [ci]
 refine ae (cO (jD (cB ?_ (by rfl))) (by rfl))
 refine ab (Eu (m:=xu) (ps:= #[]) (clos:=[("book",L+10)]) (σf:=[("book",.hdr (hp l))]) hA GW hbm' iW hP trivial ?h1 ?h2 ?h3 ?h4 ?h5 ?h6 ?h7 ?h8 ?h9 ?h10 ?h11 ?h12) (λv₁ Ua uu=>Nm uu λx₁ Uj hv1 c2 hP1=> ?_) λz z e=>e
 case h1=>rfl
 case h2=>rfl
 case h3=>rfl
 case h4=>exact λz z z=>rfl
 case h5=>decide
 case h6=>exact ⟨by rfl,trivial⟩
 case h7=>
  intro x p e
  rcases Bv e with ⟨rfl,rfl⟩
  exact ⟨rfl,by decide+kernel,rfl,hb,rfl⟩
 case h8=>
  intro base outer A' g' L' f c' G' B'
  refine L7 B' (ps:=[.str (S (oI l)),.int 3]) (ul G' (v:=.ref 89) (by kernel_rfl)) (mM (CK G' (tI (nF (by walk_at "lk"))) hl) (mM mT mP)) (λs i=>rE ((G'.inBase _ i).frag _ _ (Cr _).e) rfl) ?_
  intro s vs us i lx r _ bw
  refine nu (sW r) λv u Ub rv ru=> ?_;obtain rfl:=Ub
  exact Gp (G'.room.less (by exact mK (.l xM xO) [] [])) (G'.inBase _ i) (G'.offX i) lx rv ru bw
 case h9=>rfl
 case h10=>rfl
 case h11=>rfl
 case h12=>rfl
 refine cB ?_ (by rfl)
 refine ab (Eu (m:=w5) (clos:=[("struck",L+11),("book",L+10)]) (σf:=[("struck",.inst D),("book",.hdr (hp l))]) hA GW hbm' Uj hP1 trivial ?k1 ?k2 ?k3 ?k4 ?k5 ?k6 ?k7 ?k8 ?k9 ?k10 ?k11 ?k12) (λv₂ Ud uu=>Nm uu λx₂ Ui hv2 z hP2=> ?_) λz z e=>e
 case k1=>rfl
 case k2=>rfl
 case k3=>rfl
 case k4=>exact λz z z=>rfl
 case k5=>decide
 case k6=>exact ⟨by rfl,by rfl,trivial⟩
 case k7=>
  intro x p e
  rcases Jf e with ⟨rfl,rfl⟩|⟨rfl,rfl⟩
  ·exact ⟨rfl,by decide+kernel,rfl,hs,rfl⟩
  ·exact ⟨rfl,by decide+kernel,rfl,hb,rfl⟩
 case k8=>
  intro base outer A' g' L' f c' G' B'
  refine JL (ps:=[.str (S [97,108,108]),.str (S (oI l))]) (ks:=[]) (H:=λh a=> ∃d D,oX h a d D) G' B' ?ho (λz z t=>t) (λz z z uu k=>rU uu λd D t=>⟨d,D,t.keep k⟩) (by kernel_rfl) (D6 _).e (by kernel_rfl) (by kernel_rfl)
   (mM (nh (by kernel_rfl)) (mM (CK G' (tI (nF (by walk_at "lk"))) hl) mP)) x9 ?_
  case ho=>
   refine .mk λs i=>ab ((nF (p:=.inst D) (by walk_at "lk")).run s i) (λv Ua uu=>eA uu λUc Uf=> ?_) λz z e=>e
   refine nw Uf ?_;clear Uf;intro a d Ub _ _ t;obtain rfl:=Ub
   exact ⟨Uc,a,rfl,d,D,t⟩
  ·intro a s vs us i lx r ru bw
   refine sa (zK r) λx v u Ub rx rv ru'=> ?_;obtain rfl:=Ub
   subst rx
   refine rU i.2 λd D' t=> ?_
   have hu:us=[]:=by simpa using ru.len
   subst hu
   exact Jz (G'.room) (G'.inBase _ i.1) lx (G'.offX i.1) t rv ru' Uo OJ bw
 case k9=>rfl
 case k10=>rfl
 case k11=>rfl
 case k12=>rfl
 refine cG ?_
 refine ⟨by show 2<=bo;decide,?_⟩
 refine eE hv1 ?_;clear hv1;intro Vo Ub;obtain rfl:=Ub
 refine eE hv2 ?_;clear hv2;intro Vz Ub;obtain rfl:=Ub
 have kp:=m9 Ud {cls:=.type "list",data:=.seq ([.str xu Vo,.str w5 Vz]:List ay).toArray} Ud.toks
 have Us:=Ui.mono (mN kp)
 have hP3:=mN kp _ _ hP2
 have Vy:oj (cV A g L D).X Ud.heap:=λa ha=>Ui.liveAll a (.tail _ ha)
 have WM:=In.unhide (c:=(m5 pH 333 A [] [] g L).addOwn D) Us (λq=>hn q) hP3 (.tail _ (.head _))
 rw [SX] at WM
 generalize hH:Ud.heap.push {cls:=.type "list",data:=.seq ([.str xu Vo,.str w5 Vz]:List ay).toArray}=H at Us hP3 WM
 have hk:m4 (hideAll g [330]) (hideAll H ((m5 pH 333 A [] [] g L).addOwn D).own):=λb o e=>bS _ (Us.keep b o e) λq=>by
  have q2:=Us.fresh b (.tail _ q)
  have e2:(cW A g L D).g.get? b=aa o:=e
  rw [q2] at e2;exact nE e2
 have hK2: ∃ps,(hideAll H ((m5 pH 333 A [] [] g L).addOwn D).own).get? 330=aa (ei ps):=⟨_,bS _ hP3 λq=>hn q⟩
 generalize hideAll H ((m5 pH 333 A [] [] g L).addOwn D).own=G2 at WM hk hK2
 have GV:Gd w 5 (cV A G2 L D):=⟨GW.base.keep hk,G.off,G.room,G.fn,G.gl,G.bl⟩
 have rl:mV (cV A G2 L D).X H (.list [.str xu,.str w5]) (.ref Ud.heap.objs.size):=by
  subst hH
  exact uK (oY Vy) ⟨_,av _ rfl,rfl,_,rfl⟩ (mR.cons ou (mR.cons ou mR.nil))
 subst hH
 refine ab (t5 (c:=cV A G2 L D) (p:=.list [.str xu,.str w5]) WM (.inl rfl) rl rfl) (λz Uw uu=>eA uu λVM U4=> ?_) λz z e=>e
 exact ab ((hrest _ hk hK2 GV).run Uw U4) (λfl UQ uu=>eA uu λXE j=>⟨((x₁.trans x₂).trans ((nK.of kp).trans VM)).trans XE,j⟩) λz z e=>e
end
noncomputable def BH:List (Nat×Int):=[(0,18709805),(1,5),(2,257),(3,16387),(4,12648578)]
noncomputable def Bk (ns:List Int) (q:Nat×Int):Int:=q.2+((i5 ns (aa (q.1:Int)) (aa 60) (aa 5)).map λx=>x.fmod 1000000000000).sum
section
variable {w:au} {A:aX} {g:aW} {L:aF} {σ:m7} {Λ:List (aF×List PV)}
abbrev c1 (A:aX) (g:aW) (L:aF):Sc:=m5 pH 333 A [] [] g L
theorem A4 (hk:pH.scope.names.lookup x=aa .cell) (hb:(bv (L+1) pH.scope.names []).lookup x=aa b):sG (c1 A g L) x:=.inr ⟨b,vi rfl hk hb⟩
theorem LW (ns:List Int) (lo hi st:Option Int):(i5 ns lo hi st).length<=ns.length:=by
 have h:=slicePick_size_le ((ns.map λn=>ay.int n 0).toArray) lo hi st
 have i:IntsAre (ns.map λn=>ay.int n 0) ns:=by
  clear h
  induction ns with
  |nil=>exact .nil
  |cons n ns ih=>exact .cons n 0 ih
 have j:=IntsAre.pick i lo hi st
 have:=j.length
 simp at h this
 exact (mK (.i (.e xC xA) (.i (.l xC xB) (.l xA xB))) [_,_,_]) this h
set_option maxHeartbeats 1000000 in
theorem L4 (G:Gd w 5 (c1 A g L)) (hn:ns.length<=63) (hs:aD ("script":Str) σ=aa (PV.list (ns.map PV.int)))
  (hb:mZ mJ w (c1 A g L).env (c1 A g L).A (In (c1 A g L) (("cells",.list ((BH.map (Bk ns)).map PV.int))::σ) Λ) b J):mZ mJ w (c1 A g L).env (c1 A g L).A (In (c1 A g L) σ Λ) (nB nI 0::b) J:=by
 have hz:=aw
 refine mS (p:=.list ((BH.map (Bk ns)).map PV.int)) (.mk λs i=>Ev.run (mW (pQ (l:=BH) (V:=λq:Nat×Int=>.tup [.int (q.1:Int),.int q.2]) (bs:=λq=>[("start",.int q.2),("k",.int (q.1:Int))]) (cl:=[("script",L+1)]) [("script",.list (ns.map PV.int))] (λz=>ai) (λq=>.int (Bk ns q))
  ?h1 ?h2 ?h3 ?h4 ?h5 ?h6 ?h7 ?h8 ?h9 ?h10 ?h11) ?h12) s i) hb (A4 (by rfl) (by rfl))
 case h1=>exact JP (tq (r6 G (by kernel_rfl) (by kernel_rfl)) (mM (oE (ps:=[.int 18709805,.int 5,.int 257,.int 16387,.int 12648578]) (mM mT (mM mT (mM mT (mM mT (mM mT mP))))) (by simp;exact (mK (.i (.e xA xL) (.l xN xA)) [_]) hz)) mP)) G.room.1 (λz h=>nomatch h)
 case h2=>exact oa nR hs (.inl rfl) (λz=>rfl) (λz=>.inl rfl)
 case h3=>exact λq C g' Ug z=>re G.room.1
 case h4=>exact λq C g' Ug z z z=>ot
 case h5=>
  intro q C g' Ug hq _ k hf
  have hO:=G.offX i
  have G1:=Gd.comp G hO k hf rfl
  have hl:=LW ns (aa (q.1:Int)) (aa 60) (aa 5)
  refine mQ (p:=.int q.2) (q:=.int (((i5 ns (aa (q.1:Int)) (aa 60) (aa 5)).map λx=>x.fmod 1000000000000).sum)) ?_ ?_ n6
  ·walk_at "ev"
  refine oq G1 (ps:=[.list (((i5 ns (aa (q.1:Int)) (aa 60) (aa 5)).map λx=>x.fmod 1000000000000).map PV.int)]) (by kernel_rfl) (by kernel_rfl) (mM ?_ mP) (OU G.room.1)
  refine mW (pQ (l:=i5 ns (aa (q.1:Int)) (aa 60) (aa 5)) (V:=PV.int) (bs:=λx=>[("x",.int x)]) (cl:=[]) [] (λz=>ai) (λx=>.int (x.fmod 1000000000000)) ?k1 nR (λz z z z z=>nZ) (λz z z z z z z=>ot) ?k5 (by exact (mK (.i (.l xC (.c 63)) (.i (.e xB xL) (.i (.l xA xC) (.l xA xB)))) [_,_,_]) hn hz hl) (λz z=>rfl) (by rfl) trivial (by rfl) (by decide+kernel)) ?k12
  case k1=>
   refine qJ (Cs (k:=5) ?_ (n8 ?_) (n8 mT) (n8 mT) (by decide) (by exact (mK (.i (.l xA (.c 63)) (.i (.e xB xL) (.l xA xB))) [_,_]) hn hz)) G.room.1 (.inl ⟨_,_,rfl⟩) (λz h=>nomatch h)
   ·walk_at "ev"
   ·walk_at "ev"
  case k5=>
   intro x C2 g2 more2 _ _ _ _
   refine mQ (p:=.int x) (q:=.int 1000000000000) ?_ mT (oA (by decide))
   walk_at "ev"
  case k12=>rw [bW.mpr (λz z=>rfl),aB];rfl
 case h6=>decide
 case h7=>exact λz z=>by kernel_rfl
 case h8=>rfl
 case h9=>exact ⟨by rfl,trivial⟩
 case h10=>rfl
 case h11=>decide+kernel
 case h12=>rw [bW.mpr (λz z=>rfl),aB];rfl
end
end
section
end
section
open PySem.Calls PyProof.Rows PySem.Builtin.Str
noncomputable def Bo (c0:Int) (k:Nat):Int:=1+(c0.fdiv ((5:Int)^k)).fmod 5
def Ex (c0:Int):List Int:=sortI ((ag 4).map (Bo c0))
noncomputable def xj (v:Int) (i:Nat):Int:=(v.fdiv ((128:Int)^i)).fmod 128
def xc (cs sz:List Int) (n:Nat):List Int:=(ag (sz[n]?.getD 0).toNat).map (xj (cs[n+1]?.getD 0))
section
variable {w:au} {A:aX} {g:aW} {L:aF} {σ:m7} {Λ:List (aF×List PV)}
theorem wq {α:Type} {l:List α}:l.filter (λz=>ai)=l:=bW.mpr (λz z=>rfl)
theorem Ku {b k:Nat} (hb:b<=128) (hk:k<=8):(eu (b:Int):Int)*(k:Int)<=2^27:=by
 have h: ∀b≤128,eu ((b:Nat):Int)<=16:=by decide+kernel
 have:=h b hb
 have h2:(eu (b:Int):Int)<=16:=by exact_mod_cast this
 have h3:(k:Int)<=8:=by exact (mK (.i (.l xA (.c 8)) (.L (.k xA) (.c 8))) [_]) hk
 have h4:(eu (b:Int):Int)*(k:Int)<=16*8:=Int.mul_le_mul h2 h3 (by exact mK (.L xJ (.k xA)) [_]) (by exact mK (.L xJ (.c 16)) [] [])
 omega
theorem pX (G:Gd w 0 c) {n:Nat} (hv:Ev mJ w (fs c σ Λ) e (.int n)) (hn:n<=1000) (hx:c.env.kindOf "range"=aa .globalImplicit)
  (he:autoParam (aE [e] c.env=(false,bJ e c.env)::aE [] c.env) X1):uF mJ w c σ Λ own (.Name x px) (.Call (.Name "range" np) [e] [] pos) ((ag n).map λ(i:Nat)=>.int ((0:Int)+i)):=
 zt (a:=0) (b:=n) (DJ (tq (r6 G (by kernel_rfl) (by kernel_rfl) (by decide+kernel) hx) (mM hv mP he) he)) (by rw [lB];split<;>(first|exact (mK (.i (.n (.B xJ (.k xA))) (.E xJ (.k xA))) [_]) (by assumption)|exact mK (.E (.s (.k xA) xJ) (.k xA)) [_])) (A3 (by exact mK (.L xJ xJ) [] []) (by exact mK (.L xJ (.c 1000000)) [] []) (by exact mK (.L xJ (.k xA)) [_]) (by exact (mK (.i (.l xA xQ) (.L (.k xA) (.c 1000000))) [_]) hn)) G.room.1
theorem Gd.zero (G:Gd w n c):Gd w 0 c:=⟨G.base,G.off,G.room.less (cx _),G.fn,G.gl,G.bl⟩
theorem vE {b k:Nat} (hb:b<=128) (hk:k<=8):og mJ w A X (cf .Pow) (.int b) (.int ((0:Int)+k)) (.int ((b:Int)^k)):=by
 have:=Iu (prog:=mJ) (w:=w) (A:=A) (X:=X) (a:=b) (n:=(0:Int)+k) (by exact mK (.L xJ (.a xJ (.k xA))) [_]) (by rw [fv];exact Ku hb hk)
 rw [show ((0:Int)+k).toNat=k by exact mK (.e (.t (.a xJ (.k xA))) xA) [_]] at this
 exact this
theorem Bp {b k:Nat} (hb:0<b):((b:Int)^k)≠0:=Int.pow_ne_zero (by exact (mK (.i (.b xJ xA) (.n (.E (.k xA) xJ))) [_]) hb)
theorem SV: ∀k<4,((5:Int)^k).natAbs<1073741824:=by decide+kernel
set_option maxHeartbeats 1000000 in
theorem Lw (G:Gd w 5 (c1 A g L)) {cs:List Int} (h0:cs[0]? =aa c0) (hs:aD ("cells":Str) σ=aa (PV.list (cs.map PV.int)))
  (hb:mZ mJ w (c1 A g L).env (c1 A g L).A (In (c1 A g L) (("sizes",.list ((Ex c0).map PV.int))::σ) Λ) b J):mZ mJ w (c1 A g L).env (c1 A g L).A (In (c1 A g L) σ Λ) (nB nI 1::b) J:=by
 have hz:=aw
 refine mS (p:=.list ((Ex c0).map PV.int)) (oq G (ps:=[.list (((ag 4).map (Bo c0)).map PV.int)]) (by kernel_rfl) (by kernel_rfl) (mM (.mk λs i=>Ev.run (mW (pQ (l:=ag 4) (V:=λk:Nat=>.int ((0:Int)+k)) (bs:=λk=>[("k",.int ((0:Int)+k))]) (cl:=[("cells",L+2)]) [("cells",.list (cs.map PV.int))] (λz=>ai) (λk=>.int (Bo c0 k))
  ?h1 ?h2 ?h3 ?h4 ?h5 ?h6 ?h7 ?h8 ?h9 ?h10 ?h11) ?h12) s i) mP) (It (by simp))) hb (A4 (by rfl) (by rfl))
 case h1=>exact pX G.zero (n:=4) mT (by exact mK (.l xK xQ) [] []) (by rfl)
 case h2=>exact oa nR hs (.inl rfl) (λz=>rfl) (λz=>.inl rfl)
 case h3=>exact λq C g' Ug z=>nZ
 case h4=>exact λq C g' Ug z z z=>ot
 case h5=>
  intro k C g' Ug hk _ _ _
  have hk:=aL.mp hk
  refine mQ (p:=.int 1) (q:=.int ((c0.fdiv ((5:Int)^k)).fmod 5)) mT (mQ (p:=.int (c0.fdiv ((5:Int)^k))) (q:=.int 5) (mQ (p:=.int c0) (q:=.int ((5:Int)^k)) (nA (p:=.list (cs.map PV.int)) (q:=.int 0) ?_ mT (ni (by exact mK (.L xJ xJ) [] []) (by show (cs.map PV.int)[0]? =_;rw [a7,h0];rfl) (by exact mK (.B xJ xS) []))) (mQ (p:=.int (5:Nat)) (q:=.int ((0:Int)+k)) mT ?_ (vE (by exact mK (.l xN xR) [] []) (by exact (mK (.i (.b xA xK) (.l xA (.c 8))) [_]) hk))) (pb (Bp (b:=5) (by exact mK (.b xJ xN) [] [])) (SV k hk))) mT (oA (by decide))) n6
  ·walk_at "ev"
  ·walk_at "ev"
 case h6=>decide
 case h7=>exact λz z=>by kernel_rfl
 case h8=>rfl
 case h9=>exact ⟨by rfl,trivial⟩
 case h10=>rfl
 case h11=>decide+kernel
 case h12=>rw [wq,aB];rfl
theorem JD {c:Sc} (hk:(iY scope (bv (C+1) scope.names cl) C c.env).kindOf x=aa .cell) (hb:(bv (C+1) scope.names []).lookup x=aa b) (U7: ∀z∈cl,z.2∈c.X)
  (hX: ∀d∈(ny c scope cl C g' Ug).own,d∉c.X):sG (ny c scope cl C g' Ug) x:=.inr ⟨b,{
 kind:=hk
 at':=by
  show (bv (C+1) scope.names cl).lookup x=aa b
  rw [qq,dX,hb];rfl
 own:=.tail _ (pI.mpr ⟨x,hb⟩)
 only:=λy e=>by
  have e:(bv (C+1) scope.names cl).lookup y=aa b:=e
  rw [qq] at e
  rcases ar.mp (mem_of_lookup e) with q|q
  ·exact tZ _ _ _ _ _ q (mem_of_lookup hb)
  ·exact absurd (U7 _ q) (hX b (.tail _ (pI.mpr ⟨x,hb⟩)))}⟩
end
section
variable {w:au} {A:aX} {g:aW} {L:aF} {σ:m7} {Λ:List (aF×List PV)}
theorem PC: ∀k<5,((128:Int)^k).natAbs<1073741824:=by decide+kernel
theorem Qw (hb:(bv (L+1) pH.scope.names []).lookup x=aa b):b∈(c1 A g L).X:=ax _ (.tail _ (ax _ (pI.mpr ⟨x,hb⟩)))
set_option maxHeartbeats 2000000 in
theorem ON (G:Gd w 5 (c1 A g L)) (hc:cs.length=5) (hs4:sz.length=4) (hs5: ∀x∈sz,0<=x/\x<=5) (hs:aD ("cells":Str) σ=aa (PV.list (cs.map PV.int))) (hz:aD ("sizes":Str) σ=aa (PV.list (sz.map PV.int)))
  (hb:mZ mJ w (c1 A g L).env (c1 A g L).A (In (c1 A g L) (("rows",.list ((ag 4).map λn=>.list ((xc cs sz n).map PV.int)))::σ) Λ) b J):mZ mJ w (c1 A g L).env (c1 A g L).A (In (c1 A g L) σ Λ) (nB nI 2::b) J:=by
 have VE:=aw
 refine mS (p:=.list ((ag 4).map λn=>.list ((xc cs sz n).map PV.int))) (.mk λs i=>Ev.run (mW (Ey (l:=ag 4) (V:=λk:Nat=>.int ((0:Int)+k)) (bs:=λk=>[("n",.int ((0:Int)+k))]) (cl:=[("sizes",L+3),("cells",L+2)]) [("cells",.list (cs.map PV.int)),("sizes",.list (sz.map PV.int))] (λy=>ai) (λn=>.list ((xc cs sz n).map PV.int))
  ?h1 ?h2 ?h3 ?h4 ?h5 ?h6 ?h7 ?h8 ?h9 ?h10 ?h11) ?h12) s i) hb (A4 (by rfl) (by rfl))
 case h1=>exact pX G.zero (n:=4) mT (by exact mK (.l xK xQ) [] []) (by rfl)
 case h2=>exact oa (oa nR hz (.inl rfl) (λy=>rfl) (λy=>.inl rfl)) hs (.inl rfl) (λy=>rfl) (λy=>.inl rfl)
 case h3=>
  intro q C g' Ug _ hX
  refine nZ (JD (b:=C+1) rfl rfl (λz hz=> ?_) hX)
  simp only [ao,fD,or_false] at hz
  rcases hz with rfl|rfl
  ·exact Qw (x:="sizes") (by rfl)
  ·exact Qw (x:="cells") (by rfl)
 case h4=>exact λq C g' Ug z z z=>ot
 case h5=>
  intro n C g' Ug hn _ k hf
  have hn:=aL.mp hn
  have hO:=G.offX i
  have G1:=Gd.comp G hO k hf rfl
  have hsn:sz[n]? =aa (sz[n]?.getD 0):=by rw [aA (by exact (mK (.i (.e xB xK) (.i (.b xA xK) (.b xA xB))) [_,_]) hs4 hn)];rfl
  have hcn:cs[n+1]? =aa (cs[n+1]?.getD 0):=by rw [aA (by exact (mK (.i (.e xB xN) (.i (.b xA xK) (.b (.a xA xI) xB))) [_,_]) hc hn)];rfl
  have hr:0<=sz[n]?.getD 0/\sz[n]?.getD 0<=5:=hs5 _ (bu hsn)
  generalize hS:sz[n]?.getD 0=S0 at*
  generalize hV:cs[n+1]?.getD 0=V0 at*
  have hrow:xc cs sz n=(ag S0.toNat).map (xj V0):=by unfold xc;rw [hS,hV]
  rw [hrow]
  refine .mk λs2 i2=>Ev.run (mW (pQ (l:=ag S0.toNat) (V:=λk:Nat=>.int ((0:Int)+k)) (bs:=λk=>[("i",.int ((0:Int)+k))]) (cl:=[("n",C+1),("cells",L+2)]) [("n",.int ((0:Int)+n)),("cells",.list (cs.map PV.int))] (λz=>ai) (λk=>.int (xj V0 k))
   ?k1 ?k2 ?k3 ?k4 ?k5 ?k6 ?k7 ?k8 ?k9 ?k10 ?k11) ?k12) s2 i2
  case k1=>
   refine pX G1.zero (n:=S0.toNat) (mW (nA (p:=.list (sz.map PV.int)) (q:=.int ((0:Int)+n)) (r:=.int S0) ?_ ?_ (ni (by exact mK (.L xJ (.a xJ (.k xA))) [_]) (by rw [a7,show ((0:Int)+n).toNat=n by exact mK (.e (.t (.a xJ (.k xA))) xA) [_],hsn];rfl) (by exact (mK (.i (.b xA xK) (.B (.a xJ (.k xA)) xS)) [_]) hn))) (by rw [eS hr.1])) (by exact (mK (.i (.L xA xN) (.l (.t xA) xQ)) [] [_]) hr.2) (by rfl)
   ·walk_at "ev"
   ·walk_at "ev"
  case k2=>exact oa (oa nR (by walk_at "lk") (.inl rfl) (λz=>rfl) (λz=>.inl rfl)) (by walk_at "lk") (.inl rfl) (λz=>rfl) (λz=>.inl rfl)
  case k3=>exact λz z z z z=>nZ
  case k4=>exact λz z z z z z z=>ot
  case k5=>
   intro x C2 g2 more2 hx _ _ _
   have hx:=aL.mp hx
   refine mQ (p:=.int (V0.fdiv ((128:Int)^x))) (q:=.int 128) (mQ (p:=.int V0) (q:=.int ((128:Int)^x)) (nA (p:=.list (cs.map PV.int)) (q:=.int (((0:Int)+n)+1)) ?_ (mQ (p:=.int ((0:Int)+n)) (q:=.int 1) ?_ mT n6) (ni (by exact mK (.L xJ (.a (.a xJ (.k xA)) xI)) [_]) (by rw [a7,show ((0:Int)+n+1).toNat=n+1 by exact mK (.e (.t (.a (.a xJ (.k xA)) xI)) (.a xA xI)) [_],hcn];rfl) (by exact (mK (.i (.b xA xK) (.B (.a (.a xJ (.k xA)) xI) xS)) [_]) hn)))
    (mQ (p:=.int (128:Nat)) (q:=.int ((0:Int)+x)) mT ?_ (vE (by exact mK (.l xR xR) [] []) (by exact (mK (.i (.L xA xN) (.i (.b xA (.t xA)) (.l xA (.c 8)))) [_] [_]) hr.2 hx))) (pb (Bp (b:=128) (by exact mK (.b xJ xR) [] [])) (PC x (by exact (mK (.i (.L xA xN) (.i (.b xA (.t xA)) (.b xA xN))) [_] [_]) hr.2 hx)))) mT (oA (by decide))
   ·walk_at "ev"
   ·walk_at "ev"
   ·walk_at "ev"
  case k6=>rw [be];exact (mK (.i (.e xA xL) (.i (.L xA xN) (.l (.t xA) xA))) [_] [_]) VE hr.2
  case k7=>exact λz z=>by kernel_rfl
  case k8=>rfl
  case k9=>exact ⟨by rfl,by rfl,trivial⟩
  case k10=>rfl
  case k11=>decide+kernel
  case k12=>rw [wq,aB];rfl
 case h6=>decide
 case h7=>exact λz z=>by kernel_rfl
 case h8=>rfl
 case h9=>exact ⟨by rfl,by rfl,trivial⟩
 case h10=>rfl
 case h11=>decide+kernel
 case h12=>rw [wq]
end
section
variable {prog:aG} {w:au} {c:Sc} {σ:m7} {Λ:List (aF×List PV)} {J:gV->aW->Prop}
theorem L2 (hl:Ev prog w (fs c σ Λ) l (.int a)) (hr:Ev prog w (fs c σ Λ) r (.int b))
  (hb:pK prog w (In c ((x,.int (a+b))::σ) Λ) c.env c.A rest J) (hx:autoParam (sG c x) X2) (hk:autoParam (c.env.scope.kind= .function) X1) (hs:autoParam (cK (.BinOp l .Add r bp) (aa (.Name x px)) pos.line c.env=bG false) X1):
  mZ prog w c.env c.A (In c σ Λ) (.Assign [.Name x px] (.BinOp l .Add r bp) pos::rest) J:=.mk λs i=>by
 rw [ci]
 refine ae (cO (j8 (ab (hl.run s i) (λv Ua uu=>eA uu λUc Uf=>ab (hr.run Ua (i.mono (mN Uc))) (λu Ud uu=>eA uu λUe Ur=> ?_) λz z e=>e) λz z e=>e)) hs)
 refine eE (tz Uf) λt Ub=> ?_;obtain rfl:=Ub
 refine eE (tz Ur) λt' Ub=> ?_;obtain rfl:=Ub
 have Um:bB Ud {Ud with toks:=Ud.toks+1}:=pt _ _
 have Us:=i.mono (mN (mO Uc (mO Ue Um)))
 refine P.add_int ?_
 refine qm (ab (t5 (p:=.int (a+b)) Us hx tU hk) (λz Uw uu tk=>eA uu λVM U4=> ?_) λz z e=>e)
 have pos:0<Uw.toks:=bg (kP _) tk
 exact ab (hb.run Uw U4 pos) (λfl UQ uu=>eA uu λXE j=>⟨((nK.of (mO Uc (mO Ue Um))).trans VM).trans XE,j⟩) λz z e=>e
theorem MJ {st:eh} {I I':aW->Prop} (h:mZ prog w env A I [st] (λfl g=>match fl with|.next=>I' g|f=>J f g)) (hc:pK prog w I' env A d J):pK prog w I env A (st::d) J:=MV (b:=[st]) h hc
end
section
variable {w:au} {c:Sc} {σ:m7} {Λ:List (aF×List PV)} {J:gV->aW->Prop}
theorem L8 (G:Gd w 3 c) (ho:Ev mJ w (fs c σ ((D,hp l)::Λ)) o (.inst D)) (h1:Ev mJ w (fs c σ ((D,hp l)::Λ)) e1 (.str (S nm))) (h2:Ev mJ w (fs c σ ((D,hp l)::Λ)) e2 (.str (S vl)))
  (hl:l.length<=1000) (k1:nm.length<=100/\ ∀c∈nm,vD ai c=ai) (k2:vl.length<=100/\ ∀c∈vl,vD false c=ai) (Uu: ∀q∈Λ,q.1≠D)
  (hb:mZ mJ w c.env c.A (In c σ ((D,hp (l++[(nm,vl)]))::Λ)) rest J)
  (V5:autoParam (bJ (.Call (.Attribute o "add_header" ap) [e1,e2] [] cp) c.env=(do
   let ov <-bJ o c.env
   iv ap.atName
   let (f,first) <-gW [ov] (hZ ov "add_header" pl)
   gJ cp f first (fb cp (aE [e1,e2] c.env)) (cN cp (bR [] c.env)))) X1)
  (he:autoParam (aE [e1,e2] c.env=(false,bJ e1 c.env)::aE [e2] c.env) X1) (he2:autoParam (aE [e2] c.env=(false,bJ e2 c.env)::aE [] c.env) X1)
  (hi:autoParam (i6 c.env=false) X1) (hs:autoParam (cK (.Call (.Attribute o "add_header" ap) [e1,e2] [] cp) az pos.line c.env=bG false) X1):
  mZ mJ w c.env c.A (In c σ ((D,hp l)::Λ)) (.Expr (.Call (.Attribute o "add_header" ap) [e1,e2] [] cp) pos::rest) J:=
 qZ (I':=In c σ ((D,hp (l++[(nm,vl)]))::Λ)) (λs i=>fM (jx (ab (ho.run s i) (λv Ua uu=>eA uu λUc Uf=>by
  refine nw Uf ?_;clear Uf;intro a d Ub ha hd t;obtain rfl:=Ub
  have Uj:=i.mono (mN Uc)
  refine tL (vQ t) λW1 I e1' Wd=> ?_
  refine lS (f:=290) (G.inBase _ Uj).frag I (BX _) (DR _) (by kernel_rfl) (by kernel_rfl) (by show (gp ("add_header":Str) W1).map _=_;rw [Wd _ (by decide+kernel)];rfl) ?_
  refine nQ (qv (ab ((mM (pos:=cp) h1 (mM h2 mP he2) he).run Ua Uj) (λvs Ud uu=>eA uu λUe Ur=> ?_) λy y e=>e) he)
  refine nu (sW Ur) λu z Ub ru rz=> ?_;obtain rfl:=Ub
  have Ui:=Uj.mono (mN Ue)
  refine ⟨rE ((G.inBase _ Ui).frag _ _ (D6 _).e) rfl,?_⟩
  refine o8 (Ui.lists (D,hp l) (.head _)) λhDo us VR rs=> ?_
  refine ab (MQ G.room (G.inBase _ Ui) Ui.liveAll (G.offX Ui) (ax _ hDo) (t.keep (mN Ue)) VR rs hl k1 k2 ru rz) (λz Uk uu=>HN uu λV8 kx WF Rm rs2=> ?_) λz z e=>e
  exact ⟨((nK.of Uc).trans (nK.of Ue)).trans V8,Ui.pushX kx ⟨WF,Rm,rs2⟩ Uu⟩) λz z e=>e) V5) hi hs) hb
theorem DB (B:ox w.params s.heap):s8 A mJ w (.ref 293) s:=λQ E h=>by
 refine mX (looks_keep (K:=KB w.params) (M:=aI mJ w) (f:=.ref 293) (by kernel_rfl) B.frag) λk z L=> ?_
 exact L.here (h k)
theorem Cx (G:Gd w 3 c) (he:Ev mJ w (fs c σ Λ) e (.list (hp l))) (ok:Fu l) (hx:autoParam (c.env.kindOf "Headers"=aa .globalImplicit) X1)
  (hs:autoParam (aE [e] c.env=(false,bJ e c.env)::aE [] c.env) X1):Ev mJ w (fs c σ Λ) (.Call (.Name "Headers" np) [e] [] cp) (.hdr (hp l)):=.mk λs i=>
 (Cd (ul G (v:=.ref 293) (by kernel_rfl) hx) (mM he mP hs) (λs i=>DB (G.inBase _ i)) (Gu G.room G.inBase (G.offX i) ok) hs).run s i
theorem LZ (G:Gd w 3 c) (hb: ∀D,c.g.get? D=az->D∉c.X->mZ mJ w (c.addOwn D).env (c.addOwn D).A (In (c.addOwn D) ((x,.inst D)::σ) ((D,[])::Λ)) rest J)
  (hp: ∀D,sG (c.addOwn D) x) (hx:autoParam (c.env.kindOf "Headers"=aa .globalImplicit) X1) (hs:autoParam (cK (.Call (.Name "Headers" np) [] [] cp) (aa (.Name x px)) pos.line c.env=bG false) X1):
  mZ mJ w c.env c.A (In c σ Λ) (.Assign [.Name x px] (.Call (.Name "Headers" np) [] [] cp) pos::rest) J:=.mk λs i=>by
 rw [ci]
 refine ae (cO (cm (ab ((ul G (v:=.ref 293) (by kernel_rfl) hx).run s i) (λv Ua uu=>eA uu λUc Uf=> ?_) λz z e=>e)) hs)
 subst Uf
 have Uj:=i.mono (mN Uc)
 refine nQ (wx ⟨DB (G.inBase _ Uj),ab (Gc G.room (G.inBase _ Uj) Uj.liveAll (G.offX Uj)) (λv Ud uu=>IA uu λUe a d D e ha hd t hD Wu=> ?_) λz z e=>e⟩)
 subst e
 have j:=Uj.addOwn (mN Ue) hD ⟨#[],_,Wu⟩
 have Ui:In (c.addOwn D) σ ((D,[])::Λ) Ud.heap:=by
  refine {j with lists:=λq hq=> ?_}
  rcases ao.mp hq with e|e
  ·subst e;exact ⟨.head _,[],⟨_,Wu⟩,mR.nil⟩
  ·exact j.lists q e
 have gD:c.g.get? D=az:=Ui.fresh _ (.head _)
 have haD:a≠D:=λq=>by rw [<-q,t.obj] at Wu;have:=congrArg Obj.cls (am Wu);cases this
 have hdD:d≠D:=λq=>by
  obtain ⟨od,e2,e3,_⟩:=t.dic
  rw [q,Wu] at e2;obtain rfl:=am e2;exact nE e3
 have nX:D∉c.X:=λq=>by
  obtain ⟨o,e⟩:=Uj.liveAll _ q
  rw [hD] at e;exact nE e
 have r:mV (c.addOwn D).X Ud.heap (.inst D) (.ref a):=by
  refine ⟨a,d,rfl,λq=> ?_,λq=> ?_,t⟩
  ·rcases ao.mp q with q|q
   ·exact haD q
   ·exact ha q
  ·rcases ao.mp q with q|q
   ·exact hdD q
   ·exact hd q
 refine ab (t5 (c:=c.addOwn D) Ui (hp D) r G.fn) (λz Uk uu=>eA uu λV8 Us=> ?_) λz z e=>e
 exact ab ((hb D gD nX).run Uk Us) (λfl Uw uu=>eA uu λVM jj=>⟨((nK.of Uc).trans (nK.of Ue)).trans (V8.trans VM),jj⟩) λz z e=>e
end
end
section
open PySem.Calls PyProof.Rows PySem.Builtin.Str
def Ap (κ:m7) (xs:List Str):Prop:= ∀q∈κ,κ.lookup q.1=aa q.2/\q.1∉xs
theorem Ap.refl (h:Ap κ xs):Has κ κ:=λq hq=>(h q hq).1
theorem Ap.skip (h:Ap κ xs) (hx:xs.elem x=ai) (t:Has σ κ):Has ((x,p)::σ) κ:=λq hq=>by
 have:(q.1==x)=false:=by
  have:q.1≠x:=λe=>(h q hq).2 (by rw [e];exact kf hx)
  simpa using this
 rw [aD,this]
 exact t q hq
noncomputable def LN:List Str:=["sign","signs","ahead","text","left","name","tone","share","value","hand","book","mail","line","n","one","place","own","octets","coded","x"]
theorem Ap.mono (h:Ap κ ys) (k: ∀x∈xs,x∈ys):Ap κ xs:=λq hq=>⟨(h q hq).1,λe=>(h q hq).2 (k _ e)⟩
theorem Ap.cons (h:Ap κ (x::xs)) (hx:x∉xs):Ap ((x,p)::κ) xs:=λq hq=>by
 rcases ao.mp hq with rfl|hq
 ·exact ⟨BF,hx⟩
 ·refine eA (h q hq) λa b=> ?_
  have:q.1≠x:=λe=>b (by rw [e];exact .head _)
  exact ⟨Cy (by simpa using this) a,λe=>b (.tail _ e)⟩
theorem Ap.nil:Ap [] xs:=λq hq=>nomatch hq
noncomputable def LS:List Str:=["sign","signs","ahead","text","value","share","hand"]
end
section
open PySem.Calls PyProof.Rows PySem.Builtin.Str
noncomputable def Bc:List (List Nat):=[[10],[13,10],[13]]
def vp (dr d:Int):List Nat:=Bc[((dr.fdiv d).fmod 3).toNat]?.getD [10]
noncomputable def uj:List (List Nat):=[[97,98,99,100],[65,66,67,68]]
def AD (dr:Int) (n:Nat):Nat:=(uj[(((dr.fdiv 54).fdiv ((2:Int)^n)).fmod 2).toNat]?.getD [])[n]?.getD 97
noncomputable def FM (dr:Int) (n:Nat):Nat:=(((dr.fdiv 864).fdiv ((3:Int)^n)).fmod 3).toNat
section
variable {w:au} {A:aX} {g:aW} {L:aF} {σ:m7} {Λ:List (aF×List PV)}
theorem qU {a m:Int} (hm:0<m):0<=a.fmod m/\a.fmod m<m:=by
 rw [bM _ (by exact (mK (.i (.B xJ xA) (.L xJ xA)) [] [_]) hm)]
 exact ⟨Int.emod_nonneg _ (by exact (mK (.i (.B xJ xA) (.n (.E xA xJ))) [] [_]) hm),Int.emod_lt_of_pos _ (by omega)⟩
theorem Qa (dr d:Int):Bc[((dr.fdiv d).fmod 3).toNat]? =aa (vp dr d):=by
 have h:=qU (a:=dr.fdiv d) (m:=3) (by decide)
 unfold vp
 rw [aA (show ((dr.fdiv d).fmod 3).toNat<Bc.length by exact (mK (.i (.B xA xO) (.b (.t xA) xO)) [] [_]) h.2)];rfl
theorem JO (G:Gd w 5 c) (he:Ev mJ w (fs c σ Λ) e (.int ((dr.fdiv d).fmod 3)))
  (h1:autoParam (aE [.Constant (.str (aS "\n")) k1 p1,.Constant (.str (aS "\x0d\n")) k2 p2,.Constant (.str (aS "\x0d")) k3 p3] c.env=(false,bJ (.Constant (.str (aS "\n")) k1 p1) c.env)::aE [.Constant (.str (aS "\x0d\n")) k2 p2,.Constant (.str (aS "\x0d")) k3 p3] c.env) X1)
  (h2:autoParam (aE [.Constant (.str (aS "\x0d\n")) k2 p2,.Constant (.str (aS "\x0d")) k3 p3] c.env=(false,bJ (.Constant (.str (aS "\x0d\n")) k2 p2) c.env)::aE [.Constant (.str (aS "\x0d")) k3 p3] c.env) X1)
  (h3:autoParam (aE [.Constant (.str (aS "\x0d")) k3 p3] c.env=(false,bJ (.Constant (.str (aS "\x0d")) k3 p3) c.env)::aE [] c.env) X1):
  Ev mJ w (fs c σ Λ) (.Subscript (.Tuple [.Constant (.str (aS "\n")) k1 p1,.Constant (.str (aS "\x0d\n")) k2 p2,.Constant (.str (aS "\x0d")) k3 p3] k p4) e pos) (.str (S (vp dr d))):=by
 have h:=qU (a:=dr.fdiv d) (m:=3) (by decide)
 refine nA (p:=.tup (Bc.map λl=>.str (S l))) (q:=.int ((dr.fdiv d).fmod 3)) (oE (mM (nh (by kernel_rfl)) (mM (nh (by kernel_rfl)) (mM (nh (by kernel_rfl)) mP h3) h2) h1) (by decide)) he (rS h.1 (by rw [a7,Qa];rfl) (by exact (mK (.i (.B xA xO) (.B xA xS)) [] [_]) h.2))
theorem Sk: ∀k<4,((2:Int)^k).natAbs<1073741824:=by decide+kernel
theorem Sg: ∀k<4,((3:Int)^k).natAbs<1073741824:=by decide+kernel
set_option maxHeartbeats 1000000 in
theorem Ij (G:Gd w 5 (c1 A g L)) (hd:aD ("dress":Str) σ=aa (PV.int dr))
  (hb:mZ mJ w (c1 A g L).env (c1 A g L).A (In (c1 A g L) (("letters",.list ((ag 4).map λn=>.str (S [AD dr n])))::σ) Λ) b J):mZ mJ w (c1 A g L).env (c1 A g L).A (In (c1 A g L) σ Λ) (nB nI 7::b) J:=by
 have hz:=aw
 refine mS (p:=.list ((ag 4).map λn=>.str (S [AD dr n]))) (.mk λs i=>Ev.run (mW (pQ (l:=ag 4) (V:=λk:Nat=>.int ((0:Int)+k)) (bs:=λk=>[("n",.int ((0:Int)+k))]) (cl:=[("dress",L+6)]) [("dress",.int dr)] (λz=>ai) (λn=>.str (S [AD dr n]))
  ?h1 ?h2 ?h3 ?h4 ?h5 ?h6 ?h7 ?h8 ?h9 ?h10 ?h11) ?h12) s i) hb (A4 (by rfl) (by rfl))
 case h1=>exact pX G.zero (n:=4) mT (by exact mK (.l xK xQ) [] []) (by rfl)
 case h2=>exact oa nR hd (.inl rfl) (λz=>rfl) (λz=>.inl rfl)
 case h3=>exact λq C g' Ug z=>nZ
 case h4=>exact λq C g' Ug z z z=>ot
 case h5=>
  intro n C g' Ug hn _ _ _
  have hn:=aL.mp hn
  have h:=qU (a:=(dr.fdiv 54).fdiv ((2:Int)^n)) (m:=2) (by decide)
  have e1:uj[(((dr.fdiv 54).fdiv ((2:Int)^n)).fmod 2).toNat]? =aa (uj[(((dr.fdiv 54).fdiv ((2:Int)^n)).fmod 2).toNat]?.getD []):=by
   rw [aA (show _<uj.length by exact (mK (.i (.B xA xM) (.b (.t xA) xM)) [] [_]) h.2)];rfl
  have e2:(uj[(((dr.fdiv 54).fdiv ((2:Int)^n)).fmod 2).toNat]?.getD [])[n]? =aa (AD dr n):=by
   have UK: ∀k<2,∀n<4,(uj[k]?.getD [])[n]? =aa ((uj[k]?.getD [])[n]?.getD 97):=by decide
   exact UK _ (by exact (mK (.i (.B xA xM) (.b (.t xA) xM)) [] [_]) h.2) n hn
  refine nA (p:=.str (S (uj[(((dr.fdiv 54).fdiv ((2:Int)^n)).fmod 2).toNat]?.getD []))) (q:=.int ((0:Int)+n)) (nA (p:=.tup (uj.map λl=>.str (S l))) (q:=.int (((dr.fdiv 54).fdiv ((2:Int)^n)).fmod 2)) (oE (mM (nh (by kernel_rfl)) (mM (nh (by kernel_rfl)) mP)) (by decide))
   (mQ (p:=.int ((dr.fdiv 54).fdiv ((2:Int)^n))) (q:=.int 2) (mQ (p:=.int (dr.fdiv 54)) (q:=.int ((2:Int)^n)) (mQ (p:=.int dr) (q:=.int 54) ?_ mT (pb (by decide) (by decide))) (mQ (p:=.int (2:Nat)) (q:=.int ((0:Int)+n)) mT ?_ (vE (by exact mK (.l xM xR) [] []) (by exact (mK (.i (.b xA xK) (.l xA (.c 8))) [_]) hn))) (pb (Bp (b:=2) (by exact mK (.b xJ xM) [] [])) (Sk n hn))) mT (oA (by decide)))
   (rS h.1 (by rw [a7,e1];rfl) (by exact (mK (.i (.B xA xM) (.B xA xS)) [] [_]) h.2))) ?_ (qR (by exact mK (.L xJ (.a xJ (.k xA))) [_]) (by rw [show ((0:Int)+n).toNat=n by exact mK (.e (.t (.a xJ (.k xA))) xA) [_]];exact e2) (by exact (mK (.i (.b xA xK) (.B (.a xJ (.k xA)) xS)) [_]) hn))
  ·walk_at "ev"
  ·walk_at "ev"
  ·walk_at "ev"
 case h6=>decide
 case h7=>exact λz z=>by kernel_rfl
 case h8=>rfl
 case h9=>exact ⟨by rfl,trivial⟩
 case h10=>rfl
 case h11=>decide+kernel
 case h12=>rw [wq]
set_option maxHeartbeats 1000000 in
theorem Od (G:Gd w 5 (c1 A g L)) (hd:aD ("dress":Str) σ=aa (PV.int dr))
  (hb:mZ mJ w (c1 A g L).env (c1 A g L).A (In (c1 A g L) (("dots",.list ((ag 4).map λn=>.int (FM dr n:Nat)))::σ) Λ) b J):mZ mJ w (c1 A g L).env (c1 A g L).A (In (c1 A g L) σ Λ) (nB nI 8::b) J:=by
 have hz:=aw
 refine mS (p:=.list ((ag 4).map λn=>.int (FM dr n:Nat))) (.mk λs i=>Ev.run (mW (pQ (l:=ag 4) (V:=λk:Nat=>.int ((0:Int)+k)) (bs:=λk=>[("n",.int ((0:Int)+k))]) (cl:=[("dress",L+6)]) [("dress",.int dr)] (λz=>ai) (λn=>.int (FM dr n:Nat))
  ?h1 ?h2 ?h3 ?h4 ?h5 ?h6 ?h7 ?h8 ?h9 ?h10 ?h11) ?h12) s i) hb (A4 (by rfl) (by rfl))
 case h1=>exact pX G.zero (n:=4) mT (by exact mK (.l xK xQ) [] []) (by rfl)
 case h2=>exact oa nR hd (.inl rfl) (λz=>rfl) (λz=>.inl rfl)
 case h3=>exact λq C g' Ug z=>nZ
 case h4=>exact λq C g' Ug z z z=>ot
 case h5=>
  intro n C g' Ug hn _ _ _
  have hn:=aL.mp hn
  have h:=qU (a:=(dr.fdiv 864).fdiv ((3:Int)^n)) (m:=3) (by decide)
  refine mW (mQ (p:=.int ((dr.fdiv 864).fdiv ((3:Int)^n))) (q:=.int 3) (mQ (p:=.int (dr.fdiv 864)) (q:=.int ((3:Int)^n)) (mQ (p:=.int dr) (q:=.int 864) ?_ mT (pb (by decide) (by decide))) (mQ (p:=.int (3:Nat)) (q:=.int ((0:Int)+n)) mT ?_ (vE (by exact mK (.l xO xR) [] []) (by exact (mK (.i (.b xA xK) (.l xA (.c 8))) [_]) hn))) (pb (Bp (b:=3) (by exact mK (.b xJ xO) [] [])) (Sg n hn))) mT (oA (by decide))) ?_
  ·walk_at "ev"
  ·walk_at "ev"
  ·unfold FM;rw [eS h.1]
 case h6=>decide
 case h7=>exact λz z=>by kernel_rfl
 case h8=>rfl
 case h9=>exact ⟨by rfl,trivial⟩
 case h10=>rfl
 case h11=>decide+kernel
 case h12=>rw [wq]
theorem Oi (G:Gd w 5 (c1 A g L)) {cs:List Int} (h0:cs[0]? =aa c0) (hdr:c0.fdiv 625=dr) (hs:aD ("cells":Str) σ=aa (PV.list (cs.map PV.int)))
  (hb:mZ mJ w (c1 A g L).env (c1 A g L).A (In (c1 A g L) (("mark",.str (S (vp dr 18)))::("eol",.str (S (vp dr 6)))::("width",.int (12+dr.fmod 6))::("dress",.int dr)::σ) Λ) b J):
  mZ mJ w (c1 A g L).env (c1 A g L).A (In (c1 A g L) σ Λ) (nB nI 3::nB nI 4::nB nI 5::nB nI 6::b) J:=by
 subst hdr
 refine mS (p:=.int (c0.fdiv 625)) (mQ (p:=.int c0) (q:=.int 625) (nA (p:=.list (cs.map PV.int)) (q:=.int 0) (nF hs) mT (ni (by exact mK (.L xJ xJ) []) (by show (cs.map PV.int)[0]? =_;rw [a7,h0];rfl) (by exact mK (.B xJ xS) []))) mT (pb (by decide) (by decide))) ?_ (A4 (by rfl) (by rfl))
 refine mS (p:=.int (12+(c0.fdiv 625).fmod 6)) (mQ mT (mQ (p:=.int (c0.fdiv 625)) (q:=.int 6) (by walk_at "ev") mT (oA (by decide))) n6) ?_
 refine mS (p:=.str (S (vp (c0.fdiv 625) 6))) (JO G ?_) ?_
 ·refine mQ (p:=.int ((c0.fdiv 625).fdiv 6)) (q:=.int 3) (mQ (p:=.int (c0.fdiv 625)) (q:=.int 6) ?_ mT (pb (by decide) (by decide))) mT (oA (by decide))
  walk_at "ev"
 refine mS (p:=.str (S (vp (c0.fdiv 625) 18))) (JO G ?_) hb
 refine mQ (p:=.int ((c0.fdiv 625).fdiv 18)) (q:=.int 3) (mQ (p:=.int (c0.fdiv 625)) (q:=.int 18) ?_ mT (pb (by decide) (by decide))) mT (oA (by decide))
 walk_at "ev"
end
noncomputable def nj (k c:Nat):List Nat:=aH k 46++[c]
noncomputable def mY (r:List Nat):List Nat:=r.map (128+ ·)
def tV (dt lt:Nat->Nat) (rs:Nat->List Nat):HP:=(ag 4).map λn=>(nj (dt n) (lt n),mY (rs n))
theorem zW (k:Nat):(aH k [46]).flatten=aH k 46:=by
 induction k with
 |zero=>rfl
 |succ k ih=>rw [cq,cu,ih,cq];rfl
theorem zC: ∀c∈zo,vD ai c=ai:=by decide+kernel
theorem FE: ∀c<256,128<=c->vD false c=ai:=by decide+kernel
theorem Bb (hc:c∈zo): ∀d∈nj k c,d∈zo:=by
 intro d hd
 rcases ar.mp hd with h|h
 ·rw [(dW.mp h).2];decide
 ·rw [ak.mp h];exact hc
theorem t6 (h: ∀x∈r,x<128):vB (mY r):=by
 intro c hc
 refine mX (aK.mp hc) λx hx Ub=> ?_;obtain rfl:=Ub
 have:=h x hx
 exact (mK (.i (.b xA xR) (.a (.l xR (.a xR xA)) (.b (.a xR xA) (.c 256)))) [_]) this
theorem Kw (r:List Nat):(Txt.join (S []) ((r.map λx=>[x]).map S)).cps.toList=r:=by
 rw [xV]
 induction r with
 |nil=>rfl
 |cons x r ih=>
  cases r with
  |nil=>rfl
  |cons y r=>
   have:jn [] (([x]:List Nat)::(eV (λx=>[x]) (y::r)))=[x]++[]++jn [] (eV (λx=>[x]) (y::r)):=rfl
   rw [ba,this,ih];rfl
theorem QV (h:x.cps.toList=l):x=S l:=by
 subst h;rfl
section
variable {w:au}
theorem G9 (G:Gd w 1 c) (hi:Ev mJ w (fs c σ Λ) iter (.list (r.map λx:Nat=>PV.int x))) (hr: ∀x∈r,x<128) (hl:r.length<=100)
  (hO: ∀h,In c σ Λ h->sY w.params c.X) (U7:gL sc c.env=bG []) (hk:sc.kind= .function) (XV: ∀y∈sc.names,y.2= .local->sc.names.lookup y.1=aa .local)
  (hp: ∀C g Ug,sG (ny c sc [] C g Ug) "x") (hkc: ∀C g Ug,(ny c sc [] C g Ug).env.kindOf "chr"=aa .globalImplicit) (hf: ∀C g Ug,(ny c sc [] C g Ug).env.scope.kind= .function)
  (hs: ∀x,cP iter c.env x=bG x)
  (U1:aE [.ListComp (.Call (.Name "chr" p0) [.BinOp (.Constant (.int 128) k p1) .Add (.Name "x" p2) p3] [] p4) [⟨.Name "x" p5,iter,[],0⟩] sc p6] c.env=(false,bJ (.ListComp (.Call (.Name "chr" p0) [.BinOp (.Constant (.int 128) k p1) .Add (.Name "x" p2) p3] [] p4) [⟨.Name "x" p5,iter,[],0⟩] sc p6) c.env)::aE [] c.env)
  (W7: ∀C g Ug,aE [.BinOp (.Constant (.int 128) k p1) .Add (.Name "x" p2) p3] (ny c sc [] C g Ug).env=(false,bJ (.BinOp (.Constant (.int 128) k p1) .Add (.Name "x" p2) p3) (ny c sc [] C g Ug).env)::aE [] (ny c sc [] C g Ug).env)
  (UA:db (.Constant (.str (aS "")) kk p7) "join" c.env (bJ (.Constant (.str (aS "")) kk p7) c.env)=bJ (.Constant (.str (aS "")) kk p7) c.env)
  (U9:((fb pos (aE [.ListComp (.Call (.Name "chr" p0) [.BinOp (.Constant (.int 128) k p1) .Add (.Name "x" p2) p3] [] p4) [⟨.Name "x" p5,iter,[],0⟩] sc p6] c.env)).all (λx=> !x.1)&&(cN pos (bR [] c.env)).all (λx=>x.1.isSome)
   &&decide (([.ListComp (.Call (.Name "chr" p0) [.BinOp (.Constant (.int 128) k p1) .Add (.Name "x" p2) p3] [] p4) [⟨.Name "x" p5,iter,[],0⟩] sc p6]:List Expr).length+([]:List eW).length+(if ([]:List eW).isEmpty then 0 else 1)<30))=ai)
  (UF:(ap.endLine==pos.line)=ai):
  Ev mJ w (fs c σ Λ) (.Call (.Attribute (.Constant (.str (aS "")) kk p7) "join" ap) [.ListComp (.Call (.Name "chr" p0) [.BinOp (.Constant (.int 128) k p1) .Add (.Name "x" p2) p3] [] p4) [⟨.Name "x" p5,iter,[],0⟩] sc p6] [] pos) (.str (S (mY r))):=by
 have hz:=aw
 refine ro (p:=.str (S [])) (T:="str") (nh (by kernel_rfl)) oy F.plainAttrs_str F.slot_str_join F.type_str_join (mM (p:=.list (((mY r).map λx=>[x]).map S |>.map PV.str)) (.mk λs i=>Ev.run (mW (pQ (l:=r) (V:=λx:Nat=>PV.int x) (bs:=λx=>[("x",.int (x:Nat))]) (cl:=[]) [] (λz=>ai) (λx=>.str (S [128+x]))
  (qJ hi G.room.1 (.inl ⟨_,_,rfl⟩) (λz h=>nomatch h)) nR (λx C g Ug z=>nZ (hp C g Ug) (hf C g Ug)) (λz z z z z z z=>ot) ?h5 (by exact (mK (.i (.l xA xP) (.i (.e xB xL) (.l xA xB))) [_,_]) hl hz) (λz z=>rfl) U7 trivial hk XV hs) ?h12) s i) mP U1) (qB (vZ (ud ?hj)) (by rw [QV (Kw (mY r))])) UA U9 UF U1
 case h5=>
  intro x C g' Ug hx _ kk hn
  have G1:=Gd.comp G (hO _ i) kk hn (hf C g' Ug)
  have hx:=hr x hx
  refine oq G1 (ps:=[.int ((128+x:Nat):Int)]) (by kernel_rfl) (by kernel_rfl) (mM (mW (mQ (p:=.int 128) (q:=.int (x:Nat)) mT (nF (by walk_at "lk") (hf C g' Ug)) n6) (by congr 1)) mP (W7 C g' Ug)) (CH (by exact (mK (.i (.b xA xR) (.l (.a xR xA) (.c 1114111))) [_]) hx)) (.inl ⟨_,rfl⟩) (by decide+kernel) (hkc C g' Ug) (by decide+kernel) (W7 C g' Ug)
 case h12=>rw [wq,mY,aB,aB,aB];rfl
 case hj=>
  have h1:(((mY r).map λx=>[x]).flatten)=mY r:=by rw [<-cn];exact List.flatMap_singleton' (mY r)
  rw [h1,ah];show (eV _ r).length+r.length*0<=_;rw [ah];exact (mK (.i (.l xA xP) (.l (.a xA (.r xA 0)) (.c 1000000))) [_]) hl
end
noncomputable def uU (rs:Nat->List Nat):PV:=.list ((ag 4).map λn=>.list ((rs n).map λx:Nat=>PV.int x))
theorem oZ {α:Type} {f:Nat->α} (h:k<n):((ag n).map f)[k]? =aa (f k):=by
 rw [a7,List.getElem?_range h];rfl
theorem Gd.sub (G:Gd w n c) (h:m<=n):Gd w m c:=⟨G.base,G.off,G.room.less h,G.fn,G.gl,G.bl⟩
theorem AE {n:Nat}:((0:Int)+n)=n:=by exact mK (.E (.a xJ (.k xA)) (.k xA)) [_]
section
variable {w:au} {A:aX} {g:aW} {L:aF} {σ:m7} {Λ:List (aF×List PV)}
set_option maxHeartbeats 2000000 in
theorem Ox (G:Gd w 5 (c1 A g L)) (VU: ∀n<4,dt n<3) (Ux: ∀n<4,lt n∈zo) (XT: ∀n<4,(rs n).length<=5/\ ∀x∈rs n,x<128)
  (hr:aD ("rows":Str) σ=aa (uU rs)) (hl:aD ("letters":Str) σ=aa (PV.list ((ag 4).map λn=>PV.str (S [lt n])))) (hd:aD ("dots":Str) σ=aa (PV.list ((ag 4).map λn=>PV.int (dt n:Nat))))
  (hb:mZ mJ w (c1 A g L).env (c1 A g L).A (In (c1 A g L) (("book",.hdr (hp (tV dt lt rs)))::σ) Λ) b J):mZ mJ w (c1 A g L).env (c1 A g L).A (In (c1 A g L) σ Λ) (nB nI 9::b) J:=by
 have VE:=aw
 refine mS (p:=.hdr (hp (tV dt lt rs))) (Cx (Gd.sub G (by exact mK (.l xO xN) [] [])) (.mk λs i=>Ev.run (mW (pQ (l:=ag 4) (V:=λk:Nat=>.int ((0:Int)+k)) (bs:=λk=>[("n",.int ((0:Int)+k))]) (cl:=[("rows",L+5),("letters",L+7),("dots",L+8)]) [("rows",uU rs),("letters",.list ((ag 4).map λn=>.str (S [lt n]))),("dots",.list ((ag 4).map λn=>.int (dt n:Nat)))] (λz=>ai) (λn=>.tup [.str (S (nj (dt n) (lt n))),.str (S (mY (rs n)))])
  ?h1 ?h2 ?h3 ?h4 ?h5 ?h6 ?h7 ?h8 ?h9 ?h10 ?h11) ?h12) s i) ?hok) hb (A4 (by rfl) (by rfl))
 case h1=>exact pX G.zero (n:=4) mT (by exact mK (.l xK xQ) [] []) (by rfl)
 case h2=>exact oa (oa (oa nR hd (.inl rfl) (λz=>rfl) (λz=>.inl rfl)) hl (.inl rfl) (λz=>rfl) (λz=>.inl rfl)) hr (.inl rfl) (λz=>rfl) (λz=>.inl rfl)
 case h3=>exact λq C g' Ug z=>nZ
 case h4=>exact λq C g' Ug z z z=>ot
 case h5=>
  intro n C g' Ug hn _ k hf
  have hn:=aL.mp hn
  have hO:=G.offX i
  have G1:=Gd.comp G hO k hf rfl
  refine oE (mM (mW (mQ (p:=.str (S (aH (dt n) [46]).flatten)) (q:=.str (S [lt n])) (mQ (p:=.str (S [46])) (q:=.int (dt n:Nat)) (nh (by kernel_rfl)) (nA (p:=.list ((ag 4).map λn=>.int (dt n:Nat))) (q:=.int ((0:Int)+n)) ?a1 ?a2 (ni (by exact mK (.L xJ (.a xJ (.k xA))) [_]) (by rw [AE];exact oZ hn) (by exact (mK (.i (.b xA xK) (.B (.a xJ (.k xA)) xS)) [_]) hn))) (yq (by decide) (by have:=VU n hn;exact (mK (.i (.b xA xO) (.l xA xQ)) [_]) this)))
   (nA (p:=.list ((ag 4).map λn=>.str (S [lt n]))) (q:=.int ((0:Int)+n)) ?a3 ?a4 (ni (by exact mK (.L xJ (.a xJ (.k xA))) [_]) (by rw [AE];exact oZ hn) (by exact (mK (.i (.b xA xK) (.B (.a xJ (.k xA)) xS)) [_]) hn))) (oG ?a5)) ?a6)
   (mM (p:=.str (S (mY (rs n)))) ?oct mP)) (by simp;exact (mK (.i (.e xA xL) (.l xM xA)) [_]) VE)
  case a1=>walk_at "ev"
  case a2=>walk_at "ev"
  case a3=>walk_at "ev"
  case a4=>walk_at "ev"
  case a5=>rw [zW,a8];have:=VU n hn;exact (mK (.i (.e xB xL) (.i (.b xA xO) (.l (.a xA xI) xB))) [_,_]) VE this
  case a6=>rw [zW];rfl
  case oct=>
   refine .mk λs2 i2=>Ev.run (G9 (Gd.sub G1 (by exact mK (.l xI xN) [] [])) ?b1 (XT n hn).2 (by have:=(XT n hn).1;exact (mK (.i (.l xA xN) (.l xA xP)) [_]) this) ?b2 ?b3 ?b4 ?b5 ?b6 ?b7 ?b8 ?b9 ?b10 ?b11 ?b12 ?b13 ?b14) s2 i2
   case b1=>
    refine nA (p:=uU rs) (q:=.int ((0:Int)+n)) ?c1 ?c2 (ni (by exact mK (.L xJ (.a xJ (.k xA))) [_]) (by rw [AE];exact oZ hn) (by exact (mK (.i (.b xA xK) (.B (.a xJ (.k xA)) xS)) [_]) hn))
    case c1=>walk_at "ev"
    case c2=>walk_at "ev"
   case b2=>exact λh i=>G1.offX i
   case b3=>rfl
   case b4=>rfl
   case b5=>decide+kernel
   case b6=>exact λz z z=>.inl (by rfl)
   case b7=>exact λz z z=>by rfl
   case b8=>exact λz z z=>by rfl
   case b9=>exact λz=>by rfl
   case b10=>rfl
   case b11=>exact λz z z=>by rfl
   case b12=>rfl
   case b13=>rfl
   case b14=>rfl
 case h6=>decide
 case h7=>exact λz z=>by kernel_rfl
 case h8=>rfl
 case h9=>exact ⟨by rfl,by rfl,by rfl,trivial⟩
 case h10=>rfl
 case h11=>decide+kernel
 case h12=>rw [wq,tV,hp,aB];rfl
 case hok=>
  refine ⟨by simp [tV],λq hq=> ?_⟩
  refine mX (aK.mp hq) λn hn Ub=> ?_;obtain rfl:=Ub
  have hn:=aL.mp hn
  have h3:=VU n hn
  refine ⟨⟨?_,λc hc=>zC c (Bb (Ux n hn) c hc)⟩,⟨?_,λc hc=> ?_⟩⟩
  ·show (nj _ _).length<=100
   rw [nj,af,a8];exact (mK (.i (.b xA xO) (.l (.a xA xI) xP)) [_]) h3
  ·show (mY _).length<=100
   rw [mY,ah];have:=(XT n hn).1;exact (mK (.i (.l xA xN) (.l xA xP)) [_]) this
  ·have:=t6 (XT n hn).2 c hc
   exact FE c this.2 this.1
end
noncomputable def DX (t:Option PV):PV:=match t with|some (.tup [h,_,_])=>h|_=>.none
theorem Qg: ∀k<4,∃hq,oJ (.int 4) (.int (k:Nat)) (.int (k:Nat))=aa (.tup [hq,.fx (nH (4 - k)),.int 4]):=by
 intro k hk
 match k,hk with
 |0,_=>exact ⟨DX (oJ (.int 4) (.int (0:Nat)) (.int (0:Nat))),by kernel_rfl⟩
 |1,_=>exact ⟨DX (oJ (.int 4) (.int (1:Nat)) (.int (1:Nat))),by kernel_rfl⟩
 |2,_=>exact ⟨DX (oJ (.int 4) (.int (2:Nat)) (.int (2:Nat))),by kernel_rfl⟩
 |3,_=>exact ⟨DX (oJ (.int 4) (.int (3:Nat)) (.int (3:Nat))),by kernel_rfl⟩
noncomputable def EU (body:eh):List eh:=match body with|.For _ _ b _ _=>b|_=>[]
def ry:List eh:=EU (nB nI 13)
section
variable {w:au} {A:aX} {g g':aW} {L D:aF} {is:List aF} {σ:m7} {Λ:List (aF×List PV)}
abbrev cH (A:aX) (g:aW) (L D:aF) (is:List aF) (g':aW):Sc:=((cV A g L D).addX is).at g'
theorem HO (hk:k<4):zI mJ w 1 125 (λz=>True) [.int 4,.int (k:Nat),.int (k:Nat)] (λq=> ∃u hq mq,Fl (nH (4 - k)) u/\q= .tup [hq,.raw u,mq]):=by
 refine eE (Qg k hk) λhq e=> ?_
 have n1:qw (.int 4) (.int (k:Nat)):=trivial
 have n2:qw (.int (k:Nat)) (.int (k:Nat)):=trivial
 have UK:nJ (.int 4) (.int (k:Nat)) (.int (k:Nat))= .int 4/\n0 (nJ (.int 4) (.int (k:Nat)) (.int (k:Nat))) (qu (.int 4) (.int (k:Nat)) (.int (k:Nat)))=aa (.int (4 - k))/\rZ (qu (.int 4) (.int (k:Nat)) (.int (k:Nat))) (nJ (.int 4) (.int (k:Nat)) (.int (k:Nat)))=false:=by
  match k,hk with
  |0,_=>exact ⟨by kernel_rfl,by kernel_rfl,by kernel_rfl⟩
  |1,_=>exact ⟨by kernel_rfl,by kernel_rfl,by kernel_rfl⟩
  |2,_=>exact ⟨by kernel_rfl,by kernel_rfl,by kernel_rfl⟩
  |3,_=>exact ⟨by kernel_rfl,by kernel_rfl,by kernel_rfl⟩
 intro A X I r hI h0 ho
 have:=HV (w:=w) n1 n2 n1 e UK.1 UK.2.1 UK.2.2 A X I r hI h0 ho
 refine .mk λs vs i t0 lx rs=>ab (this.run s vs i t0 lx rs) (λv s' uu=>o8 uu λk p hp r=> ?_) λz z e=>e
 refine nu hp λu sf hf e1 e2=> ?_
 cases e1
 exact ⟨k,p,⟨u,hq,_,hf,e2⟩,r⟩
noncomputable def qD (t:Nat):Nat:=1+t % 4
noncomputable def sF (t:Nat):Nat:=4 - t/2 % 4
theorem F8 (t:Nat):(qD t,sF t)∈xn:=by
 have UK: ∀m<8,(1+m % 4,4 - m/2 % 4)∈xn:=by decide
 have h:=UK (t % 8) (fL _ (by decide))
 have e1:t % 8 % 4=t % 4:=by exact mK (.e (.e (.e xA 8) 4) (.e xA 4)) [_]
 have e2:t % 8/2 % 4=t/2 % 4:=by exact mK (.e (.e (.d (.e xA 8) 2) 4) (.e (.d xA 2) 4)) [_]
 rw [e1,e2] at h;exact h
set_option maxHeartbeats 1000000 in
theorem NW (G:Gd w 5 (cH A g L D is g')) {dr h:Nat} (hd:aD ("dress":Str) σ=aa (.int dr)) (hh:aD ("hand":Str) σ=aa (.int ((0:Int)+h)))
  (hb: ∀u,Fl (nH (sF (dr/69984+h))) u->pK mJ w (In (cH A g L D is g') (("value",.raw u)::("share",.fx (nH (qD (dr/69984+h))))::("tone",.int (dr/69984+h:Nat))::σ) Λ) (cH A g L D is g').env (cH A g L D is g').A b J):
  mZ mJ w (cH A g L D is g').env (cH A g L D is g').A (In (cH A g L D is g') σ Λ) (nB ry 0::nB ry 1::nB ry 2::b) J:=by
 refine L2 (a:=(dr:Int).fdiv 69984) (b:=(0:Int)+h) (mQ (p:=.int dr) (q:=.int 69984) ?a1 mT (pb (by decide) (by decide))) ?a2 ?rest
 case a1=>exact nF hd
 case a2=>exact nF hh
 have e0:(dr:Int).fdiv 69984+((0:Int)+h)=((dr/69984+h:Nat):Int):=by
  rw [bX _ (by decide)];exact mK (.E (.a (.d (.k xA) 69984) (.a xJ (.k xB))) (.k (.a (.d xA 69984) xB))) [_,_]
 case rest=>
 rw [e0]
 generalize ht:dr/69984+h=t
 have h3:t % 4<4:=fL _ (by decide)
 refine eE (Qg (3 - t % 4) (by exact mK (.b (.s xO (.e xA 4)) xK) [_])) λhq eq=> ?_
 have e3:(3:Int) - (t:Int).fmod 4=((3 - t % 4:Nat):Int):=by rw [bM _ (by decide)];exact mK (.E (.s xO (.e (.k xA) 4)) (.k (.s xO (.e xA 4)))) [_]
 refine ql (p:=.fx (nH (qD t))) (nA (p:=.tup [hq,.fx (nH (4 - (3 - t % 4))),.int 4]) (q:=.int 1) (oP (Gd.sub (m:=1) G (by decide)) (ps:=[.int 4,.int ((3 - t % 4:Nat):Int),.int ((3 - t % 4:Nat):Int)]) (by kernel_rfl) (vJ _).e (mM mT (mM ?b1 (mM ?b2 mP))) (uV trivial trivial trivial eq)) mT (rS (by exact mK (.L xJ xI) [] []) (by rw [show 4 - (3 - t % 4)=qD t by exact mK (.e (.s xK (.s xO (.e xA 4))) (.a xI (.e xA 4))) [_]];rfl) (by exact mK (.B xI xS) []))) ?_
 case b1=>exact mW (mQ (p:=.int 3) (q:=.int ((t:Int).fmod 4)) mT (mQ (p:=.int t) (q:=.int 4) (by walk_at "ev") mT (oA (by decide))) nU) (by rw [e3])
 case b2=>exact mW (mQ (p:=.int 3) (q:=.int ((t:Int).fmod 4)) mT (mQ (p:=.int t) (q:=.int 4) (by walk_at "ev") mT (oA (by decide))) nU) (by rw [e3])
 have e4:((t:Int).fdiv 2).fmod 4=((t/2 % 4:Nat):Int):=by rw [bX _ (by decide),bM _ (by decide)];exact mK (.E (.e (.d (.k xA) 2) 4) (.k (.e (.d xA 2) 4))) [_]
 refine uY (P:=λq=> ∃u,Fl (nH (sF t)) u/\q= .raw u) (Qs (q:=.int 1) (Jk (Gd.sub (m:=1) G (by decide)) (ps:=[.int 4,.int ((t/2 % 4:Nat):Int),.int ((t/2 % 4:Nat):Int)]) (I₀:=λz=>True) (by kernel_rfl) (vJ _).e (mM mT (mM ?c1 (mM ?c2 mP))) (HO (fL _ (by decide))) trivial (λz z z z=>trivial)) mT ?c3) (λq hq=> ?c4)
 case c1=>exact mW (mQ (p:=.int ((t:Int).fdiv 2)) (q:=.int 4) (mQ (p:=.int t) (q:=.int 2) (by walk_at "ev") mT (pb (by decide) (by decide))) mT (oA (by decide))) (by rw [e4])
 case c2=>exact mW (mQ (p:=.int ((t:Int).fdiv 2)) (q:=.int 4) (mQ (p:=.int t) (q:=.int 2) (by walk_at "ev") mT (pb (by decide) (by decide))) mT (oA (by decide))) (by rw [e4])
 case c3=>
  rintro p ⟨u,hq,mq,hf,rfl⟩
  exact ⟨.raw u,⟨u,hf,rfl⟩,rS (by exact mK (.L xJ xI) [] []) rfl (by exact mK (.B xI xS) [])⟩
 case c4=>
  refine mX hq ?_;clear hq;intro u hf Ub;obtain rfl:=Ub
  rw [ht] at hb
  exact hb u hf
end
abbrev En:=Nat×Nat×List Nat
noncomputable def sX:List Nat:=[97,98,99,100,65,66,67,68]
noncomputable def yk (c:Nat):Nat:=if c<97 then c+32 else c
noncomputable def yS (c:Nat):Nat:=if c<97 then c+32 else c - 32
def oo (e:En):List Nat×List Nat:=(nj e.1 e.2.1,mY e.2.2)
def MA (e:En):Prop:=e.1<=6/\e.2.1∈sX/\e.2.2≠[]/\e.2.2.length<=5/\ ∀x∈e.2.2,x<128
def zc (e:En):Nat:=yk e.2.1
def IT (es:List En):Prop:=es.length<=4/\(∀e∈es,MA e)/\es.Pairwise λa b=>zc a≠zc b
theorem rt: ∀k<7,∀c∈sX,oS (nj k c)=nj k (yk c)/\oS (nj k (yS c))=nj k (yk c)/\Txt.swapcase (S (nj k c))=S (nj k (yS c))/\gy (Txt.lower (S (nj k c))).length=false/\gy (Txt.swapcase (S (nj k c))).length=false/\yS c∈sX/\c∈zo/\
  (∀x∈nj k (yk c),vD ai x=ai):=by decide+kernel
theorem zT (hk:k<7) (hc:c∈sX):yZ (nj k c):=by
 refine K8 (rt k hk c hc) λh1 h2 h3 h4 h5 h6 h7 h8=> ?_
 refine ⟨?_,?_,?_,h4⟩
 ·rw [nj,af,a8];exact (mK (.i (.b xA (.c 7)) (.l (.a xA xI) xP)) [_]) hk
 ·exact h1▸h8
 ·rw [h1,nj,af,a8];exact (mK (.i (.b xA (.c 7)) (.l (.a xA xI) xQ)) [_]) hk
theorem yU (h:nj k c=nj k' c'):k=k'/\c=c':=by
 have h2:=congrArg List.getLast? h
 have h1:=congrArg bj h
 rw [nj,nj,lj,lj] at h2
 rw [nj,nj,af,af,a8,a8] at h1
 exact ⟨by simpa using h1,by simpa using h2⟩
theorem E2 {α:Type} {f:α->Nat}: ∀{es:List α},es.Pairwise (λa b=>f a≠f b)-> ∀a∈es,∀b∈es,f a=f b->a=b
 |[],_,_,h,_,_,_=>nomatch h
 |e::es,hp,a,ha,b,hb,h=>by
  obtain ⟨h1,h2⟩:=dU.mp hp
  rcases ao.mp ha with q|ha2
  ·rcases ao.mp hb with q2|hb2
   ·rw [q,q2]
   ·exact absurd (q▸h) (h1 b hb2)
  ·rcases ao.mp hb with q2|hb2
   ·exact absurd (q2▸h).symm (h1 a ha2)
   ·exact E2 h2 a ha2 b hb2 h
theorem LC {α:Type} {p:α->Bool} {l:List α} {e:α} (he:e∈l) (hp:p e=ai) (hu: ∀x∈l,p x=ai->x=e):l[l.findIdx p]? =aa e:=by
 have Ux:l.findIdx p<l.length:=List.findIdx_lt_length_of_exists ⟨e,he,hp⟩
 rw [aA Ux,hu _ (dn Ux) (ll (w:=Ux))]
theorem MF (h:IT es) (he:e∈es):xa (es.map oo) (nj e.1 (yS e.2.1))= .str (S (mY e.2.2)):=by
 refine rW h λz hok hpw=> ?_
 have o:=hok e he
 have f:=rt e.1 (by have:=o.1;exact (mK (.i (.l xA (.c 6)) (.b xA (.c 7))) [_]) this) e.2.1 o.2.1
 have UK:(es.map oo)[(es.map oo).findIdx λq=>oS q.1==oS (nj e.1 (yS e.2.1))]? =aa (oo e):=by
  refine LC (List.mem_map_of_mem he) ?_ λx hx hp=> ?_
  ·show (oS (nj e.1 e.2.1)==_)=ai
   exact f.1▸f.2.1▸(beq_self_eq_true _)
  ·obtain ⟨e',he',rfl⟩:=aK.mp hx
   have o':=hok e' he'
   have f':=rt e'.1 (by have:=o'.1;exact (mK (.i (.l xA (.c 6)) (.b xA (.c 7))) [_]) this) e'.2.1 o'.2.1
   have hp:(oS (nj e'.1 e'.2.1)==oS (nj e.1 (yS e.2.1)))=ai:=hp
   rw [f'.1,f.2.1] at hp
   have:=(yU (gF hp)).2
   rw [E2 hpw e' he' e he this]
 unfold xa
 rw [UK];rfl
noncomputable def oO:Nat->List Nat->List Nat
 |_,[]=>[]
 |a,x::t=>(x+a) % 128::oO ((x+a) % 128) t
noncomputable def pS:Nat->List Nat->Nat
 |a,[]=>a
 |a,x::t=>pS ((x+a) % 128) t
theorem BV: ∀(t:List Nat) (a x:Nat),oO a (t++[x])=oO a t++[(x+pS a t) % 128]
 |[],_,_=>rfl
 |y::t,a,x=>by show _::oO _ (t++[x])=_;rw [BV t];rfl
theorem zy: ∀(t:List Nat) (a x:Nat),pS a (t++[x])=(x+pS a t) % 128
 |[],_,_=>rfl
 |y::t,a,x=>zy t _ x
theorem zQ: ∀(t:List Nat) {a:Nat},a<128->pS a t<128
 |[],_,h=>h
 |y::t,a,_=>zQ t (fL _ (by decide))
theorem tp: ∀(t:List Nat) (a:Nat),(oO a t).length=t.length
 |[],_=>rfl
 |y::t,a=>by show _+1=_+1;rw [tp t]
theorem AC: ∀(t:List Nat) (a:Nat),∀x∈oO a t,x<128
 |[],_,_,h=>nomatch h
 |y::t,a,x,h=>by
  rcases ao.mp h with rfl|h
  ·exact fL _ (by decide)
  ·exact AC t _ x h
theorem DA {l:List Nat} (h:l[i]? =aa x):l.take (i+1)=l.take i++[x]:=by
 refine eE (aT.mp h) λhi e=> ?_
 rw [dH hi,e]
noncomputable def o9:Nat->List En->List En
 |_,[]=>[]
 |a,(k,c,r)::t=>(if r.dropLast=[] then [] else [(k,c,oO a r.dropLast)])++o9 (pS a r.dropLast) t
noncomputable def pM:Nat->List En->Nat
 |a,[]=>a
 |a,(_,_,r)::t=>pM (pS a r.dropLast) t
def sj (e:En):List Nat×List Nat:=(nj e.1 e.2.1,pC (128+e.2.2.getLast?.getD 0))
theorem ym: ∀(t:List En) (a:Nat) (e:En),o9 a (t++[e])=o9 a t++(if e.2.2.dropLast=[] then [] else [(e.1,e.2.1,oO (pM a t) e.2.2.dropLast)])
 |[],a,(k,c,r)=>by show _++[]=[]++_;rw [bK];rfl
 |(k,c,r)::t,a,e=>by
  show _++o9 _ (t++[e])=_
  rw [ym t,<-aJ];rfl
theorem xb: ∀(t:List En) (a:Nat) (e:En),pM a (t++[e])=pS (pM a t) e.2.2.dropLast
 |[],_,_=>rfl
 |(k,c,r)::t,a,e=>xb t _ e
theorem zj: ∀(t:List En) {a:Nat},a<128->pM a t<128
 |[],_,h=>h
 |(k,c,r)::t,a,h=>zj t (zQ _ h)
end
local macro_rules | `(tactic| walk_at $s:str) => q0q "has=Co|Ap.refl !|Ap.skip ! ?kr ?has|xv ?lk ?has" s
section
open PySem.Calls PyProof.Rows PySem.Builtin.Str
def Nd:List eh:=EU (nB ry 5)
noncomputable def Rf (s:eh):Expr:=match s with|.For _ i _ _ _=>i|_=>.Constant .none 0 ⟨0,0,0,0⟩
theorem Ay (l:List α):ri l az (aa (-1))=l.dropLast:=by
 rw [show (-1:Int)= -((1:Nat):Int) from rfl,BG l 1 (aN _),List.dropLast_eq_take]
section
variable {w:au} {A:aX} {g g' g2:aW} {L D:aF} {is Vd:List aF} {σ:m7} {Λ:List (aF×List PV)}
abbrev cI (A:aX) (g:aW) (L D:aF) (is:List aF) (g':aW) (Vd:List aF) (g2:aW):Sc:=((cH A g L D is g').addX Vd).at g2
set_option maxHeartbeats 1000000 in
theorem MB (G:Gd w 5 (cI A g L D is g' Vd g2)) {a t h:Nat} (hr: ∀x∈r,x<128) (hl:r.length<=5) (ha:a<128) (hu:Fl (nH (sF t)) u) (hκ:Ap κ LS)
  (hb:mZ mJ w (cI A g L D is g' Vd g2).env (cI A g L D is g' Vd g2).A (In (cI A g L D is g' Vd g2) (("signs",.str (S (mY (oO a r.dropLast))))::("ahead",.int (pS a r.dropLast:Nat))::("text",.str (S (mY r)))::("value",.raw u)::("share",.fx (nH (qD t)))::("hand",.int ((0:Int)+h))::κ) Λ) b J):
  mZ mJ w (cI A g L D is g' Vd g2).env (cI A g L D is g' Vd g2).A (In (cI A g L D is g' Vd g2) (("signs",.str (S (mY [])))::("ahead",.int (a:Nat))::("text",.str (S (mY r)))::("value",.raw u)::("share",.fx (nH (qD t)))::("hand",.int ((0:Int)+h))::κ) Λ) (nB Nd 3::b) J:=by
 have hz:=aw
 have Uo:(mY r).length<=bo:=by have e:(mY r).length=r.length:=ah ..;exact (mK (.i (.l xC xN) (.i (.e xB xL) (.i (.e xA xC) (.l xA xB)))) [_,_,_]) hl hz e
 refine rQ G (l:=r.dropLast) (V:=λx=>.str (S [128+x])) (bs:=λx=>[("sign",.str (S [128+x]))])
  (λi=>("signs",.str (S (mY (oO a (r.dropLast.take i)))))::("ahead",.int (pS a (r.dropLast.take i):Nat))::("text",.str (S (mY r)))::("value",.raw u)::("share",.fx (nH (qD t)))::("hand",.int ((0:Int)+h))::κ) (λz=>Λ) ?h1 ?h2 rfl (λz z z=>nZ) ?h4 ?h5
 case h1=>
  have e:(S (mY r.dropLast)).cps.toList.map (λk=>PV.str ⟨#[k]⟩)=r.dropLast.map λx=>PV.str (S [128+x]):=by
   rw [mY,aB];rfl
  rw [<-e]
  have hv:Ev mJ w (fs (cI A g L D is g' Vd g2) (("signs",.str (S (mY [])))::("ahead",.int (a:Nat))::("text",.str (S (mY r)))::("value",.raw u)::("share",.fx (nH (qD t)))::("hand",.int ((0:Int)+h))::κ) Λ) (Rf (nB Nd 3)) (.str (S (mY r.dropLast))):=by
   have e2:ri (mY r) az (aa (-1))=mY r.dropLast:=by rw [Ay,mY,mY,mI]
   rw [<-e2]
   refine qE (l:=mY r) (lo:=az) (hi:=aa (-1)) (nF (by walk_at "lk")) rO (n8 ?x1) Uo
   case x1=>exact r7 mT oU
  exact O5 hv G.room.1
 case h2=>rfl
 case h4=>
  intro i x g3 is3 hx G3
  have WH:x<128:=hr x (List.dropLast_subset r (bu hx))
  have hA:=zQ (r.dropLast.take i) ha
  have hT:wS ((x:Nat):Int) ((pS a (r.dropLast.take i):Nat):Int) (((0:Int)+h).fmod 2) (nH (qD t)) (nH (sF t))=aa (((x+pS a (r.dropLast.take i)) % 128:Nat):Int):=Ol (q:=(qD t,sF t)) (F8 t) WH hA
  refine mS (p:=.int (pS a (r.dropLast.take (i+1)):Nat)) (mW (oP (Gd.sub (m:=3) G3 (by decide)) (ps:=[.int (x:Nat),.int (pS a (r.dropLast.take i):Nat),.int (((0:Int)+h).fmod 2),.fx (nH (qD t)),.fx (nH (sF t))]) (by kernel_rfl) (Nc _).e
   (mM ?e1 (mM ?e2 (mM ?e3 (mM ?e4 (mM ?e5 mP))))) (Gj (by exact mK (.L xJ (.k xA)) [_]) (by exact (mK (.i (.b xA xR) (.B (.k xA) xR)) [_]) WH) (by exact mK (.L xJ (.k xA)) [_]) (by exact (mK (.i (.b xA xR) (.B (.k xA) xR)) [_]) hA) hT)) (by rw [DA hx,zy])) ?_
  case e1=>
   refine mW (mQ (p:=.int ((128+x:Nat):Int)) (q:=.int 128) (oq G3 (ps:=[.str (S [128+x])]) (by kernel_rfl) (by kernel_rfl) (mM ?_ mP) HI) mT nU) (by congr 1;exact mK (.E (.s (.k (.a xR xA)) xR) (.k xA)) [_])
   walk_at "ev"
  case e2=>walk_at "ev"
  case e3=>exact mQ (p:=.int ((0:Int)+h)) (q:=.int 2) (by walk_at "ev") mT (oA (by decide))
  case e4=>walk_at "ev"
  case e5=>exact rh (v:=u) (by walk_at "ev") (λg=>hu.rep g)
  refine mS (p:=.str (S (mY (oO a (r.dropLast.take (i+1)))))) (mW (mQ (p:=.str (S (mY (oO a (r.dropLast.take i))))) (q:=.str (S [128+pS a (r.dropLast.take (i+1))])) ?f1 ?f2 (oG ?f3)) ?f4) ?_
  case f1=>walk_at "ev"
  case f2=>
   have hB:pS a (r.dropLast.take (i+1))<128:=zQ _ ha
   refine oq G3 (ps:=[.int ((128+pS a (r.dropLast.take (i+1)):Nat):Int)]) (by kernel_rfl) (by kernel_rfl) (mM (mW (mQ (p:=.int 128) (q:=.int (pS a (r.dropLast.take (i+1)):Nat)) mT ?_ n6) (by congr 1)) mP) (CH (by exact (mK (.i (.b xA xR) (.l (.a xR xA) (.c 1114111))) [_]) hB))
   walk_at "ev"
  case f3=>
   rw [mY,ah,tp]
   have:=iH i r.dropLast
   have:=fT (xs:=r)
   have:(r.dropLast.take i).length<=r.dropLast.length:=ir _ _
   exact (mK (.i (.l xC xN) (.i (.e xB xL) (.i (.e xD (.s xC xI)) (.i (.l xA xD) (.l (.a xA xI) xB))))) [_,_,_,_]) hl hz (by assumption) this
  case f4=>rw [DA hx,BV,zy,mY,mY,bi];rfl
  exact qT (by walk_at "has")
 case h5=>
  exact (bF (aN _))▸hb
end
end
local macro_rules | `(tactic| walk_at $s:str) => q0q "lk=BF|!|Cy ?kr ?lk" s
section
open PySem.Calls PyProof.Rows PySem.Builtin.Str
theorem OF: ∀n<256,(pC n).length<=100/\ ∀c∈pC n,vD false c=ai:=by decide+kernel
theorem KQ (h:r.getLast? =aa y):(mY r).getLast? =aa (128+y):=by
 rw [mY,gB,h];rfl
theorem Dk (es:List En):(es.map oo).length=es.length:=ah ..
theorem wR: ∀(es:List En) (a:Nat),(o9 a es).length<=es.length
 |[],_=>aN _
 |(k,c,r)::t,a=>by
  have:=wR t (pS a r.dropLast)
  show (_++_:List En).length<=t.length+1
  rw [af]
  have:(if r.dropLast=[] then [] else [(k,c,oO a r.dropLast)]:List En).length<=1:=by split<;>simp
  exact (mK (.i (.l xB xC) (.i (.l xA xI) (.l (.a xA xB) (.a xC xI)))) [_,_,_]) (by assumption) this
section
variable {w:au} {A:aX} {g g':aW} {L D:aF} {is:List aF} {σ:m7} {Λ:List (aF×List PV)}
theorem Ci (hk:pH.scope.names.lookup x=aa .cell) (hb:(bv (L+1) pH.scope.names []).lookup x=aa b):oi (cV A g L D) x b:=
 have h:oi (m5 pH 333 A [] [] g L) x b:=vi rfl hk hb
 ⟨h.kind,h.at',.tail _ h.own,h.only⟩
theorem oi.loop (h:oi c x b):oi ((c.addX is).at g') x b:=⟨h.kind,h.at',h.own,h.only⟩
theorem oi.addX (h:oi c x b):oi (c.addX is) x b:=⟨h.kind,h.at',h.own,h.only⟩
set_option maxHeartbeats 2000000 in
theorem Lj (G:Gd w 5 (cH A g L D is g')) {t h:Nat} (he:IT es) (VE:sl.length<=100) (hu:Fl (nH (sF t)) u) (hκ:Ap κ LN) (hs:κ.lookup ("struck":Str)=aa (.inst D))
  (hb:mZ mJ w (cH A g L D is g').env (cH A g L D is g').A (In (cH A g L D is g') (("left",.list (hp ((o9 0 es).map oo)))::("ahead",.int (pM 0 es:Nat))::("value",.raw u)::("share",.fx (nH (qD t)))::("hand",.int ((0:Int)+h))::("book",.hdr (hp (es.map oo)))::κ) [(D,hp (sl++es.map sj))]) b J):
  mZ mJ w (cH A g L D is g').env (cH A g L D is g').A (In (cH A g L D is g') (("left",.list [])::("ahead",.int 0)::("value",.raw u)::("share",.fx (nH (qD t)))::("hand",.int ((0:Int)+h))::("book",.hdr (hp (es.map oo)))::κ) [(D,hp sl)]) (nB ry 5::b) J:=by
 have hz:=aw
 have Uo:=he.1
 refine rQ G (l:=es) (V:=λe=>.str (S (nj e.1 e.2.1))) (bs:=λe=>[("name",.str (S (nj e.1 e.2.1)))])
  (λi=>("left",.list (hp ((o9 0 (es.take i)).map oo)))::("ahead",.int (pM 0 (es.take i):Nat))::("value",.raw u)::("share",.fx (nH (qD t)))::("hand",.int ((0:Int)+h))::("book",.hdr (hp (es.map oo)))::κ)
  (λi=>[(D,hp (sl++(es.take i).map sj))]) ?h1 ?h2 ?h3 ?h4 ?h5 ?h6
 case h1=>
  refine qJ (mW (xk (Gd.sub (m:=1) G (by decide)) (tI (l:=es.map oo) (nF (by walk_at "lk"))) (DF (by rw [Dk];exact (mK (.i (.l xA xK) (.l xA xQ)) [_]) Uo)) (by kernel_rfl) (Iw _).e (by kernel_rfl) (by kernel_rfl)) ?x) G.room.1 (.inl ⟨_,_,rfl⟩) (λb hb=>ax _ hb)
  case x=>rw [aB];rfl
 case h2=>rfl
 case h3=>show [(D,hp (sl++[]))]=_;rw [bK]
 case h4=>exact λe is z=>nZ (.inr ⟨L+9,oi.addX (oi.loop (Ci (by rfl) (by rfl)))⟩)
 case h5=>
  rintro i ⟨k,c,r⟩ g2 Vd hx G2
  have hmem:=bu hx
  have o:=he.2.1 _ hmem
  refine Np o λo1 o2 o3 o4 o5=> ?_
  have o1:k<=6:=o1
  have o2:c∈sX:=o2
  have o3:r≠[]:=o3
  have o4:r.length<=5:=o4
  have o5: ∀x∈r,x<128:=o5
  have f:=rt k (by exact (mK (.i (.l xA (.c 6)) (.b xA (.c 7))) [_]) (by assumption)) c o2
  have Wk:=MF he hmem
  have hA:=zj (es.take i) (a:=0) (by decide)
  obtain ⟨y,hy⟩: ∃y,r.getLast? =aa y:=⟨_,c7 o3⟩
  have hy5:y<128:=o5 y (List.mem_of_getLast? hy)
  have XB:es.take (i+1)=es.take i++[(k,c,r)]:=by
   refine eE (aT.mp hx) λhi e=> ?_
   rw [dH hi,e]
  refine mS (p:=.str (S (mY r))) (mW (B7 (Gd.sub (m:=2) G2 (by decide)) (l:=es.map oo) (tI (nF (by walk_at "lk"))) (EP (nm:=nj k (yS c)) (by rw [Dk];exact (mK (.i (.l xA xK) (.l xA xQ)) [_]) Uo) (zT (by exact (mK (.i (.l xA (.c 6)) (.b xA (.c 7))) [_]) (by assumption)) f.2.2.2.2.2.1) ?g1) (by kernel_rfl) (Jn _).e (by kernel_rfl) (by kernel_rfl)
   (mM (rf (p:=.str (S (nj k c))) (T:="str") (by walk_at "ev") oy F.plainAttrs_str F.slot_str_swapcase F.type_str_swapcase (qB (wc f.2.2.2.2.1) (by rw [f.2.2.1]))) mP) x9) Wk) ?_
  case g1=>
   intro q hq
   obtain ⟨e,he2,rfl⟩:=aK.mp hq
   have:=he.2.1 e he2
   exact zT (by have:=this.1;exact (mK (.i (.l xA (.c 6)) (.b xA (.c 7))) [_]) this) this.2.1
  refine L8 (Gd.sub (m:=3) G2 (by decide)) (l:=sl++(es.take i).map sj) (nm:=nj k c) (vl:=pC (128+y)) (nF (by walk_at "lk")) (nF (by walk_at "lk")) (oP (Gd.sub (m:=1) G2 (by decide)) (ps:=[.str (S [128+y])]) (by kernel_rfl) (QH _).e (mM (nA (p:=.str (S (mY r))) (q:=.int (-1)) ?q1 (r7 mT oU) (tM (KQ hy))) mP) (Jh (by exact (mK (.i (.b xA xR) (.b (.a xR xA) (.c 256))) [_]) hy5))) ?q2 ?q3 (OF _ (by exact (mK (.i (.b xA xR) (.b (.a xR xA) (.c 256))) [_]) hy5)) (λz h=>nomatch h) ?_
  case q1=>walk_at "ev"
  case q2=>
   rw [af,ah]
   have:=iH i es
   have:=ir i es
   exact (mK (.i (.l xA xP) (.i (.l xC xK) (.i (.l xB xC) (.l (.a xA xB) xQ)))) [_,_,_]) VE Uo this
  case q3=>
   refine ⟨?_,λx hx=>zC x (Bb f.2.2.2.2.2.2.1 x hx)⟩
   rw [nj,af,a8];exact (mK (.i (.l xA (.c 6)) (.l (.a xA xI) xP)) [_]) (by assumption)
  refine mS (p:=.str (S (mY []))) (nh (by kernel_rfl)) ?_
  have a1:Ap κ ("book"::"name"::"left"::["sign","signs","ahead","text","value","share","hand"]):=hκ.mono (by decide+kernel)
  have a4:Ap (("left",.list (hp ((o9 0 (es.take i)).map oo)))::("name",.str (S (nj k c)))::("book",.hdr (hp (es.map oo)))::κ) ["sign","signs","ahead","text","value","share","hand"]:=((a1.cons (by decide+kernel)).cons (by decide+kernel)).cons (by decide+kernel)
  refine pf (σ':=("signs",.str (S (mY [])))::("ahead",.int (pM 0 (es.take i):Nat))::("text",.str (S (mY r)))::("value",.raw u)::("share",.fx (nH (qD t)))::("hand",.int ((0:Int)+h))::("left",.list (hp ((o9 0 (es.take i)).map oo)))::("name",.str (S (nj k c)))::("book",.hdr (hp (es.map oo)))::κ) (by clear a4;walk_at "has") ?_
  refine MB G2 o5 o4 hA hu (hκ:=a4) ?_
  have UL:(hp (sl++(es.take i).map sj++[(nj k c,pC (128+y))]))=hp (sl++(es.take (i+1)).map sj):=by
   rw [XB,bi,aJ]
   have:sj (k,c,r)=(nj k c,pC (128+y)):=by show (_,pC (128+r.getLast?.getD 0))=_;rw [hy];rfl
   rw [eZ,this]
  refine nk (d:=(mY (oO (pM 0 (es.take i)) r.dropLast)!=[])) (m8 (p:=.str (S (mY (oO (pM 0 (es.take i)) r.dropLast)))) (q:=.str (S [])) ?t1 (nh (by kernel_rfl)) ue) (λhd=> ?yes) (λhd=> ?no)
  case t1=>walk_at "ev"
  case yes=>
   have Uu:r.dropLast≠[]:=λe=>by rw [e] at hd;exact oW hd
   have el:o9 0 (es.take (i+1))=o9 0 (es.take i)++[(k,c,oO (pM 0 (es.take i)) r.dropLast)]:=by rw [XB,ym];rw [if_neg Uu]
   have ea:pM 0 (es.take (i+1))=pS (pM 0 (es.take i)) r.dropLast:=by rw [XB,xb]
   rw [el,ea]
   refine mS (p:=.list (hp ((o9 0 (es.take i)++[(k,c,oO (pM 0 (es.take i)) r.dropLast)]).map oo))) (mW (mQ (p:=.list (hp ((o9 0 (es.take i)).map oo))) (q:=.list [.tup [.str (S (nj k c)),.str (S (mY (oO (pM 0 (es.take i)) r.dropLast)))]]) ?l1 (qo (mM (oE (mM ?l2 (mM ?l3 mP)) (by simp;exact (mK (.i (.e xA xL) (.l xM xA)) [_]) hz)) mP) (by simp;exact (mK (.i (.e xA xL) (.l xI xA)) [_]) hz)) (pV ?l4)) ?l5) ?_
   case l1=>walk_at "ev"
   case l2=>walk_at "ev"
   case l3=>walk_at "ev"
   case l4=>
    have:=wR (es.take i) 0
    have:=ir i es
    unfold hp
    rw [ah,ah];exact (mK (.i (.e xB xL) (.i (.l xC xK) (.i (.l xA xD) (.i (.l xD xC) (.l (.a xA xI) xB))))) [_,_,_,_]) hz Uo (by assumption) this
   case l5=>rw [bi];unfold hp;rw [bi];rfl
   exact sw (by clear a1 a4;walk_at "has") (by rw [UL])
  case no=>
   have Uu:r.dropLast=[]:=by
    have h1:mY (oO (pM 0 (es.take i)) r.dropLast)=[]:=by simpa using hd
    have h2:=congrArg bj h1
    rw [mY,ah,tp] at h2
    exact cC h2
   have el:o9 0 (es.take (i+1))=o9 0 (es.take i):=by rw [XB,ym];rw [if_pos Uu,bK]
   have ea:pM 0 (es.take (i+1))=pS (pM 0 (es.take i)) r.dropLast:=by rw [XB,xb]
   rw [el,ea]
   exact sw (by clear a1 a4;walk_at "has") (by rw [UL])
 case h6=>exact (bF (aN _))▸hb
end
theorem Cz (s sub:Str) (hi VF:Nat): ∀(l:List Nat) (st:Array Nat×Nat),st.1.size<=VF->(iC l st (lW s sub hi VF)).run.fst.size<=VF
 |[],st,h=>h
 |a::l,st,h=>by
  simp only [cF]
  unfold lW
  split
  ·rename_i q
   exact Cz s sub hi VF l _ (by simp;exact (mK (.i (.b xA xB) (.l (.a xA xI) xB)) [_,_]) q.1.1.1)
  ·exact Cz s sub hi VF l _ h
theorem zr (s sub:Str) (n:Nat):(jv s (gk s sub 0 s.length n) sub.length).length<=n+1:=by
 have h:(gk s sub 0 s.length n).length<=n:=by
  rw [ms]
  exact Cz s sub s.length n _ (#[],0) (cx _)
 unfold jv
 simp
 omega
theorem Qu (h:o7 q):(vX q).length<=21:=by
 have:=h.n1
 have:=h.v1
 unfold vX
 rw [af,af,ty]
 exact (mK (.i (.l xA (.c 7)) (.i (.l xB xK) (.l (.a (.a xA xM) (.m 3 xB)) (.c 21)))) [_,_]) (by assumption) this
theorem wk {α:Type} {f:α->List Nat}: ∀{l:List α},(∀a∈l,(f a).length<=k)->(l.flatMap f).length<=k*l.length
 |[],_=>aN _
 |a::l,h=>by
  have ih:=wk (l:=l) λx hx=>h x (.tail _ hx)
  have:=h a (.head _)
  rw [bh,af,aU,Nat.mul_add]
  exact (mK (.i (.l xB xC) (.i (.l xA xD) (.l (.a xA xB) (.a xC (.r xD 1))))) [_,_,_,_]) ih this
section
variable {l:HP}
theorem M2 (h: ∀q∈l,o7 q) (hl:l.length<=4):((oI l).flatMap n5).length<=94:=by
 rw [zg h,pU,af]
 have:=wk (f:=λx:List Nat=>x++[13,10]) (k:=23) (l:=l.map vX) (λx hx=>by
  refine mX (aK.mp hx) λq hq Ub=> ?_;obtain rfl:=Ub
  have:=Qu (h q hq)
  rw [af];exact (mK (.i (.l xA (.c 21)) (.l (.a xA xM) (.c 23))) [_]) this)
 rw [ah] at this
 exact (mK (.i (.l xB xK) (.i (.l xA (.m 23 xB)) (.l (.a xA xM) (.c 94)))) [_,_]) hl this
theorem O7 (h: ∀q∈l,o7 q) (hl:l.length<=4):(oI l).length<=62:=by
 rw [vL,pU,af]
 have:=wk (f:=λx:List Nat=>x++[13,10]) (k:=15) (l:=l.map λq:List Nat×List Nat=>q.1++58::32::q.2) (λx hx=>by
  refine mX (aK.mp hx) λq hq Ub=> ?_;obtain rfl:=Ub
  have:=(h q hq).n1
  have:=(h q hq).v1
  rw [af,af];exact (mK (.i (.l xA (.c 7)) (.i (.l xB xK) (.l (.a (.a xA (.a (.a xB xI) xI)) xM) (.c 15)))) [_,_]) (by assumption) this)
 rw [ah] at this
 exact (mK (.i (.l xB xK) (.i (.l xA (.m 15 xB)) (.l (.a xA xM) (.c 62)))) [_,_]) hl this
theorem KL (h: ∀q∈l,o7 q): ∀c∈oI l,c<256:=by
 rw [vL]
 intro c hc
 obtain ⟨x,hx,hc⟩:=cU.mp hc
 rcases ar.mp hc with hc|hc
 ·rcases ar.mp hx with hx|hx
  ·obtain ⟨q,hq,rfl⟩:=aK.mp hx
   rcases ar.mp hc with hc|hc
   ·exact (y6 c ((h q hq).n3 c hc)).2.2.2
   ·rcases ao.mp hc with rfl|hc
    ·decide
    ·rcases ao.mp hc with rfl|hc
     ·decide
     ·exact ((h q hq).v3 c hc).2
  ·rw [ak.mp hx] at hc;cases hc
 ·exact (by decide: ∀c∈[13,10],c<256) c hc
theorem Qz:oI l≠[]:=by
 rw [vL,pU];simp
theorem w3 (h: ∀q∈l,o7 q) (hl:l.length<=4) (hw:4<=w):(pO w l).length<=95/\(pO w l).flatten.length<=190:=by
 have e:=wD w ((oI l).flatMap n5) hw ((Txt.lines (S ((oI l).flatMap n5))).length)
 rw [bF (aN _)] at e
 have e2:=Du h w
 unfold qn at e2
 rw [e2] at e
 have:=M2 h hl
 exact (mK (.i (.l xA (.a xC xI)) (.i (.l xB (.m 2 (.a xC xI))) (.i (.l xC (.c 94)) (.a (.l xA (.c 95)) (.l xB (.c 190)))))) [_,_,_]) e.1 e.2 this
theorem Eg (b:List Nat) (ls:List (List Nat)):(ls.flatMap (· ++b)).length=ls.flatten.length+ls.length*b.length:=by
 induction ls with
 |nil=>simp
 |cons x ls ih=>rw [bh,af,ih,cu,af,af,aU,iz];exact mK (.e (.a (.a xA xB) (.a xC xD)) (.a (.a xA xC) (.a xD (.m 1 xB)))) [_,_,_,_]
theorem ER (h: ∀q∈l,o7 q) (hl:l.length<=4) (hw:4<=w) (he:Un.length<=2):(qX w ((oI l).flatMap n5) Un).length<=400:=by
 rw [Bg h,Eg]
 have:=w3 h hl hw
 have:=gr this.1 he
 omega
theorem EX (p:List Nat):(dd p).length<=p.length+1:=by
 unfold dd;split<;>simp
theorem OH (ps:List (List Nat)):(ps.map dd).flatten.length<=ps.flatten.length+ps.length:=by
 induction ps with
 |nil=>simp
 |cons p ps ih=>have:=EX p;simp at ih ⊢;exact (mK (.i (.l xA (.a xC xI)) (.i (.l xB (.a xD xE)) (.l (.a xA xB) (.a (.a xC xD) (.a xE xI))))) [_,_,_,_,_]) this ih
theorem Mj (h: ∀q∈l,o7 q) (hl:l.length<=4) (hw:12<=w) (he:tn Un):(un (qX w ((oI l).flatMap n5) Un)).length<=1000/\un (qX w ((oI l).flatMap n5) Un)≠[]:=by
 rw [z9 hw h he]
 constructor
 ·rw [Eg,ah]
  have:=w3 h hl (w:=w) (by exact (mK (.i (.l (.c 12) xA) (.l xK xA)) [_]) hw)
  have:=OH (pO w l)
  show _+_*2<=_
  omega
 ·unfold pO
  rw [bi,pU];simp
theorem Pc (h: ∀q∈l,o7 q):E9 l↔l.length<=100:=by
 refine ⟨λq=>q.1,λq=>⟨q,λp hp=> ?_⟩⟩
 have:=h p hp
 exact ⟨by have:=this.n1;exact (mK (.i (.l xA (.c 7)) (.l xA xP)) [_]) this,by have:=this.v1;exact (mK (.i (.l xA xK) (.l xA xP)) [_]) this⟩
theorem JN: ∀{ns:List Int},ns≠[]-> ∃M∈ns,∀a∈ns,a<=M
 |[],h=>absurd rfl h
 |[a],_=>⟨a,.head _,λb hb=>by exact (ak.mp hb)▸(mK (.L xA xA) [] [_])⟩
 |a::b::t,_=>by
  refine mX (JN (ns:=b::t) (fE _ _)) λM h1 h2=> ?_
  by_cases h:a<=M
  ·refine ⟨M,.tail _ h1,λc hc=> ?_⟩
   rcases ao.mp hc with rfl|hc
   ·exact h
   ·exact h2 c hc
  ·refine ⟨a,.head _,λc hc=> ?_⟩
   rcases ao.mp hc with rfl|hc
   ·exact mK (.L xA xA) [] [_]
   ·have:=h2 c hc;exact (mK (.i (.n (.L xB xC)) (.i (.L xA xC) (.L xA xB))) [] [_,_,_]) h this
end
noncomputable def vj (e:En):En:=(if e.1=0 then 0 else e.1+1,e.2.1,e.2.2)
theorem Si (k:Nat) (hc:c∈sX):dd (nj k c)=nj (if k=0 then 0 else k+1) c:=by
 cases k with
 |zero=>
  have:c≠46:=λe=>by rw [e] at hc;exact absurd hc (by decide)
  unfold dd nj;simp [this]
 |succ k=>unfold dd nj;simp [cq]
theorem Go: ∀j<5,1<=j->qK (.fx (nH j)) (.fx (nH j))=aa (.fx (nH (2*j)))/\n0 (.fx (nH j)) (.fx (nH j))=aa (.fx (fN 0))/\y4 (nH (2*j)) (fN 2)=aa (nH j)/\tw (nH j) (nH j)=ai:=by
 intro j h1 h2
 match j,h1,h2 with
 |1,_,_=>exact ⟨by kernel_rfl,by kernel_rfl,by kernel_rfl,by kernel_rfl⟩
 |2,_,_=>exact ⟨by kernel_rfl,by kernel_rfl,by kernel_rfl,by kernel_rfl⟩
 |3,_,_=>exact ⟨by kernel_rfl,by kernel_rfl,by kernel_rfl,by kernel_rfl⟩
 |4,_,_=>exact ⟨by kernel_rfl,by kernel_rfl,by kernel_rfl,by kernel_rfl⟩
theorem Ec (t:Nat):sF t<5/\1<=sF t:=by have:=fL (t/2) (show 4>0 by decide);exact mK (.a (.b (.s xK (.e (.d xA 2) 4)) xN) (.l xI (.s xK (.e (.d xA 2) 4)))) [_]
theorem R2 (h: ∀q∈l,o7 q) (h4:l.length<=4):Fu l:=by
 refine ⟨by exact (mK (.i (.l xA xK) (.l xA xP)) [_]) h4,λq hq=>⟨⟨?_,λc hc=>zC c ((h q hq).n3 c hc)⟩,⟨?_,λc hc=> ?_⟩⟩⟩
 ·have:=(h q hq).n1;exact (mK (.i (.l xA (.c 7)) (.l xA xP)) [_]) this
 ·have:=(h q hq).v1;exact (mK (.i (.l xA xK) (.l xA xP)) [_]) this
 ·have:=(h q hq).v3 c hc;exact FE c this.2 this.1
section
variable {w:au} {A:aX} {g g':aW} {L D:aF} {is:List aF} {σ:m7} {Λ:List (aF×List PV)}
set_option maxHeartbeats 2000000 in
theorem Os (G:Gd w 5 (cH A g L D is g')) (hl: ∀q∈l,o7 q) (h4:l.length<=4) (hW:12<=W) (WE:W<=100) (he:tn Un)
  (x1:σ.lookup ("left":Str)=aa (.list (hp l))) (x4:σ.lookup ("width":Str)=aa (.int (W:Nat))) (x5:σ.lookup ("eol":Str)=aa (.str (S Un)))
  (hb:pK mJ w (In (cH A g L D is g') (("mail",.str (S (qX W ((oI l).flatMap n5) Un)))::σ) Λ) (cH A g L D is g').env (cH A g L D is g').A b J):pK mJ w (In (cH A g L D is g') σ Λ) (cH A g L D is g').env (cH A g L D is g').A (nB ry 6::b) J:=by
 have hz:=aw
 refine nw (t7 he) λz z z z z e2=> ?_
 have hs62:=O7 hl h4
 refine ql (p:=.str (S (qX W ((oI l).flatMap n5) Un))) (oP (Gd.sub (m:=2) G (by decide)) (ps:=[.str (S (oI l)),.int (W:Nat),.str (S Un)]) (by kernel_rfl) (Cr _).e
  (mM (CK (Gd.sub (m:=3) G (by decide)) (l:=l) (tI (Cx (Gd.sub (m:=3) G (by decide)) (nF x1) (R2 hl h4))) ((Pc hl).mpr (by exact (mK (.i (.l xA xK) (.l xA xP)) [_]) h4))) (mM (nF x4) (mM (nF x5) mP)))
  (Fo Qz (KL hl) (by exact (mK (.i (.l xA (.c 62)) (.l xA (.c 300))) [_]) hs62) e2 (by exact (mK (.i (.l (.c 12) xA) (.l xK xA)) [_]) hW) (by exact (mK (.i (.l xA xP) (.l xA xQ)) [_]) WE) (JA hl))) hb
theorem Ei (G:Gd w 5 c) (hl: ∀q∈l,o7 q) (h4:l.length<=4) (hW:12<=W) (he:tn Un)
  (h1:Ev mJ w (fs c σ Λ) o (.str (S (qX W ((oI l).flatMap n5) Un)))) (h2:Ev mJ w (fs c σ Λ) e (.str (S Un)))
  (UA:autoParam (db o "split" c.env (bJ o c.env)=bJ o c.env) X1) (U1:autoParam (aE [e] c.env=(false,bJ e c.env)::aE [] c.env) X1) (UF:autoParam ((ap.endLine==pos.line)=ai) X1)
  (U9:autoParam (((fb pos (aE [e] c.env)).all (λx=> !x.1)&&(cN pos (bR [] c.env)).all (λx=>x.1.isSome)&&decide (([e]:List Expr).length+([]:List eW).length+(if ([]:List eW).isEmpty then 0 else 1)<30))=ai) X1):
  Ev mJ w (fs c σ Λ) (.Call (.Attribute o "split" ap) [e] [] pos) (.list ((pO W l++[[]]).map λp=>.str (S p))):=by
 have hz:=aw
 refine nw (t7 he) λc0 t0 e0 z z e2=> ?_
 have hm:=ER hl h4 (w:=W) (by exact (mK (.i (.l (.c 12) xA) (.l xK xA)) [_]) hW) e2
 have hs:Txt.split (S (qX W ((oI l).flatMap n5) Un)) (S Un)=(pO W l++[[]]).map S:=Iz hW hl he
 have hp:=zr (S (qX W ((oI l).flatMap n5) Un)) (S Un) ((S (qX W ((oI l).flatMap n5) Un)).length+1)
 rw [m6,m6] at hp
 refine ro (p:=.str (S (qX W ((oI l).flatMap n5) Un))) (T:="str") h1 oy F.plainAttrs_str F.slot_str_split F.type_str_split (mM h2 mP U1) (qB (zp ?a ?b ?c) ?d) UA U9 UF U1
 case a=>rw [m6,e0];rfl
 case b=>rw [m6];omega
 case c=>rw [m6,m6];omega
 case d=>rw [hs,aB];rfl
set_option maxHeartbeats 4000000 in
theorem KU (G:Gd w 5 (cH A g L D is g')) (S2:tg g') (hl: ∀q∈l,o7 q) (h4:l.length<=4) (hW:12<=W) (WE:W<=100) (he:tn Un) (ha:a<128) (hu:Fl (nH (sF t)) u)
  (x1:σ.lookup ("mail":Str)=aa (.str (S (qX W ((oI l).flatMap n5) Un)))) (x2:σ.lookup ("ahead":Str)=aa (.int (a:Nat))) (x3:σ.lookup ("value":Str)=aa (.raw u)) (x4:σ.lookup ("width":Str)=aa (.int (W:Nat))) (x5:σ.lookup ("eol":Str)=aa (.str (S Un)))
  (hb:pK mJ w (In (cH A g L D is g') σ Λ) (cH A g L D is g').env (cH A g L D is g').A b J):pK mJ w (In (cH A g L D is g') σ Λ) (cH A g L D is g').env (cH A g L D is g').A (nB ry 7::b) J:=by
 have hz:=aw
 have WZ:=w3 hl h4 (w:=W) (by exact (mK (.i (.l (.c 12) xA) (.l xK xA)) [_]) hW)
 have hbr:=vT hW hl
 have hns:((pO W l++[[]]).map λp:List Nat=>((p.length:Nat):Int))≠[]:=by simp
 refine mX (JN hns) λM hM VA=> ?_
 have hMW:M<=W:=by
  obtain ⟨p,hp,rfl⟩:=aK.mp hM
  rcases ar.mp hp with hp|hp
  ·have:=(hbr p hp).2.1;exact (mK (.i (.l xA xB) (.L (.k xA) (.k xB))) [_,_]) this
  ·rw [ak.mp hp];exact mK (.L xJ (.k xA)) [_]
 have hd:decide (M>(W:Int))=false:=decide_eq_false (by exact (mK (.i (.L xA (.k xA)) (.n (.B (.k xA) xA))) [_] [_]) hMW)
 refine Ct (Go (sF t) (Ec t).1 (Ec t).2) λq0 q1 q2 q3=> ?_
 refine Hi (d:=false) (PI ?x ?y) (λh=>by exact oW h) (λz=>hb)
 case x=>
  refine m8 (p:=.int M) (q:=.int (W:Nat)) (oq G (ps:=[.list (((pO W l++[[]]).map λp:List Nat=>((p.length:Nat):Int)).map PV.int)]) (by kernel_rfl) (by kernel_rfl) (mM ?c mP) (OO G.room.1 hM VA)) (nF x4) (by exact hd▸zq)
  case c=>
   refine .mk λs i=>Ev.run (mW (pQ (l:=pO W l++[[]]) (V:=λp=>.str (S p)) (bs:=λp=>[("line",.str (S p))]) (cl:=[]) [] (λz=>ai) (λp:List Nat=>.int (p.length:Nat))
    ?k1 nR (λz z z z z=>nZ) (λz z z z z z z=>ot) ?k5 ?k6 (λz z=>rfl) (by rfl) trivial (by rfl) (by decide+kernel)) ?k12) s i
   case k1=>exact qJ (Ei G hl h4 hW he (nF x1) (nF x5)) G.room.1 (.inl ⟨_,_,rfl⟩) (λz h=>nomatch h)
   case k5=>
    intro p C g2 Ug hp _ k hf
    have hO:=G.offX i
    have G1:=Gd.comp G hO k hf rfl
    refine oq G1 (ps:=[.str (S p)]) (by kernel_rfl) (by kernel_rfl) (mM ?_ mP) (qB (uS ?_) (by rw [m6]))
    ·walk_at "ev"
    ·rw [m6]
     rcases ar.mp hp with hp|hp
     ·have:=(hbr p hp).2.1;exact (mK (.i (.l xB xP) (.i (.l xA xB) (.l xA (.c 1000000)))) [_,_]) WE this
     ·rw [ak.mp hp];decide
   case k6=>rw [af];exact (mK (.i (.e xB xL) (.i (.l xA (.c 95)) (.l (.a xA xI) xB))) [_,_]) hz WZ.1
   case k12=>rw [wq,aB];rfl
 case y=>
  refine O0 (b:=ai) (OD (p:=.bool ai) (Jk (Gd.sub (m:=3) G (by decide)) (I₀:=tg) (ps:=[.raw u,.fx (pE a)]) (by kernel_rfl) (NP _).e (mM (nF x3) (mM ?h mP)) (II hu q0 q1 q2 q3) S2 (λz z=>tg.keep)) ?t)
  case h=>exact oP (Gd.sub (m:=2) G (by decide)) (ps:=[.int (a:Nat)]) (by kernel_rfl) (D7 _).e (mM (nF x2) mP) (AH (by exact mK (.L xJ (.k xA)) [_]) (by exact (mK (.i (.b xA xR) (.B (.k xA) xR)) [_]) ha) (Ed ha))
  case t=>exact qA
end
theorem QC (h: ∀c∈p,c∈zo): ∀c∈dd p,c∈zo:=by
 unfold dd;split
 ·intro c hc
  rcases ao.mp hc with rfl|hc
  ·decide
  ·exact h c hc
 ·exact h
def DY (q:List Nat×List Nat):List Nat×List Nat:=(dd q.1,q.2)
theorem Pf {l:HP} (h: ∀q∈l,o7 q) (h4:l.length<=4):Fu (l.map DY):=by
 refine ⟨by rw [ah];exact (mK (.i (.l xA xK) (.l xA xP)) [_]) h4,λq' XF=> ?_⟩
 refine mX (aK.mp XF) λq hq Ub=> ?_;obtain rfl:=Ub
 have hi:=h q hq
 refine ⟨⟨?_,λc hc=>zC c (QC hi.n3 c hc)⟩,⟨?_,λc hc=> ?_⟩⟩
 ·have:=hi.n1;have:=EX q.1;exact (mK (.i (.l xB (.c 7)) (.i (.l xA (.a xB xI)) (.l xA xP))) [_,_]) (by assumption) this
 ·have:=hi.v1;exact (mK (.i (.l xA xK) (.l xA xP)) [_]) this
 ·have:=hi.v3 c hc;exact FE c this.2 this.1
theorem HH (h:o7 q):(rB q).length<=14:=by
 have:=h.n1;have:=h.v1;have:=EX q.1
 unfold rB
 rw [af];exact (mK (.i (.l xC (.c 7)) (.i (.l xB xK) (.i (.l xA (.a xC xI)) (.l (.a xA (.a (.a xB xI) xI)) (.c 14))))) [_,_,_]) (by assumption) (by assumption) this
theorem O9 {l:HP} (h: ∀q∈l,o7 q) (h4:l.length<=4) (hm:mark.length<=2):(jn mark (l.map rB++[[],[]])).length<=66:=by
 rw [yv,af]
 have:=wk (f:=λx:List Nat=>x++mark) (k:=16) (l:=l.map rB) (λx hx=>by
  refine mX (aK.mp hx) λq hq Ub=> ?_;obtain rfl:=Ub
  have:=HH (h q hq)
  rw [af];exact (mK (.i (.l xB xM) (.i (.l xA (.c 14)) (.l (.a xA xB) (.c 16)))) [_,_]) hm this)
 rw [ah] at this
 exact (mK (.i (.l xC xK) (.i (.l xB xM) (.i (.l xA (.m 16 xC)) (.l (.a xA xB) (.c 66))))) [_,_,_]) h4 hm this
theorem Pi (h1:e.1<=6) (h2:e.2.1∈sX) (h3:e.2.2≠[]) (h4:e.2.2.length<=4) (h5: ∀x∈e.2.2,x<128):o7 (oo e) where
 n1:=by show (nj _ _).length<=7;rw [nj,af,a8];show _+1<=_;exact (mK (.i (.l xA (.c 6)) (.l (.a xA xI) (.c 7))) [_]) h1
 n2:=by show nj _ _≠[];unfold nj;simp
 n3:=Bb (rt 0 (by decide) _ h2).2.2.2.2.2.2.1
 v1:=by show (mY _).length<=4;rw [mY,ah];exact h4
 v2:=by show mY _≠[];unfold mY;simpa using h3
 v3:=t6 h5
theorem A8: ∀(es:List En) (a:Nat),(∀e∈es,MA e)-> ∀e∈o9 a es,e.1<=6/\e.2.1∈sX/\e.2.2≠[]/\e.2.2.length<=4/\ ∀x∈e.2.2,x<128
 |[],_,_,_,h=>nomatch h
 |(k,c,r)::t,a,hok,e,h=>by
  rcases ar.mp h with h|h
  ·by_cases hr:r.dropLast=[]
   ·rw [if_pos hr] at h;cases h
   ·rw [if_neg hr] at h
    rw [ak.mp h]
    have o:=hok _ (.head _)
    refine ⟨o.1,o.2.1,λq=>hr ?_,?_,AC _ _⟩
    ·have:=congrArg bj q
     rw [tp] at this
     exact cC this
    ·show (oO _ _).length<=4
     rw [tp,fT]
     have:r.length<=5:=o.2.2.2.1
     exact (mK (.i (.l xA xN) (.l (.s xA xI) xK)) [_]) this
  ·exact A8 t _ (λx hx=>hok x (.tail _ hx)) e h
theorem Ic (hok: ∀e∈es,MA e):((o9 0 es).map oo).map DY=((o9 0 es).map vj).map oo:=by
 rw [aB,aB]
 refine aV λe he=> ?_
 refine rW (A8 es 0 hok e he) λz h2 z=> ?_
 show (dd (nj e.1 e.2.1),mY e.2.2)=(nj _ _,mY e.2.2)
 rw [Si _ h2];rfl
section
variable {w:au} {A:aX} {g g':aW} {L D:aF} {is:List aF} {σ:m7} {Λ:List (aF×List PV)}
set_option maxHeartbeats 4000000 in
theorem H0 (G:Gd w 5 (cH A g L D is g')) (hl: ∀q∈l,o7 q) (h4:l.length<=4) (hW:12<=W) (WE:W<=100) (he:tn Un) (hm:tn mark)
  (x1:σ.lookup ("mail":Str)=aa (.str (S (qX W ((oI l).flatMap n5) Un)))) (x5:σ.lookup ("mark":Str)=aa (.str (S mark)))
  (hb:mZ mJ w (cH A g L D is g').env (cH A g L D is g').A (In (cH A g L D is g') (("book",.hdr (hp (l.map DY)))::σ) Λ) b J):mZ mJ w (cH A g L D is g').env (cH A g L D is g').A (In (cH A g L D is g') σ Λ) (nB ry 8::b) J:=by
 have hz:=aw
 refine nw (t7 he) λz z z z z e2=> ?_
 refine nw (t7 hm) λc0 t0 e0 z z m2=> ?_
 have hq:=Mj hl h4 hW he
 have hM:=ER hl h4 (w:=W) (by exact (mK (.i (.l (.c 12) xA) (.l xK xA)) [_]) hW) e2
 have hJ:=O9 hl h4 m2
 refine mS (p:=.hdr (hp (l.map DY))) (Cx (Gd.sub (m:=3) G (by decide)) (.mk λs i=>Ev.run (mW (pQ (l:=l) (V:=λq=>.str (S (rB q))) (bs:=λq=>[("line",.str (S (rB q)))]) (cl:=[]) [] (λz=>ai) (λq=>.tup [.str (S (dd q.1)),.str (S q.2)])
    ?k1 nR (λz z z z z=>nZ) (λz z z z z z z=>ot) ?k5 (by exact (mK (.i (.l xA xK) (.i (.e xB xL) (.l xA xB))) [_,_]) h4 hz) (λz z=>rfl) (by rfl) trivial (by rfl) (by decide+kernel)) ?k12) s i) (Pf hl h4)) hb (.inr ⟨L+10,oi.loop (Ci (by rfl) (by rfl))⟩)
 case k1=>
  refine qJ (mW (tD (ps:=(l.map rB++[[],[]]).map λp=>.str (S p)) (lo:=az) (hi:=aa (-2)) ?v rO (n8 (r7 mT oU)) ?len) ?e) G.room.1 (.inl ⟨_,_,rfl⟩) (λz h=>nomatch h)
  case len=>rw [ah,af,ah];exact (mK (.i (.l xA xK) (.i (.e xB xL) (.l (.a xA xM) xB))) [_,_]) h4 hz
  case e=>
   rw [show (-2:Int)= -((2:Nat):Int) from rfl,BG _ 2 (by decide),ah,af,ah,bi]
   rw [show l.length+([[],[]]:List (List Nat)).length - 2=((l.map rB).map λp=>PV.str (S p)).length by rw [ah,ah];exact mK (.e (.s (.a xA xM) xM) xA) [_],gm,aB]
   rfl
  case v=>
   have hs:Txt.split (S (jn mark (l.map rB++[[],[]]))) (S mark)=(l.map rB++[[],[]]).map S:=I7 hl hm
   have We:=zr (S (jn mark (l.map rB++[[],[]]))) (S mark) ((S (jn mark (l.map rB++[[],[]]))).length+1)
   rw [m6,m6] at We
   have hdec:=Ge hW hl he mark
   refine ro (p:=.str (S (jn mark (l.map rB++[[],[]])))) (T:="str") (mW (oP (Gd.sub (m:=2) G (by decide)) (ps:=[.str (S (un (qX W ((oI l).flatMap n5) Un))),.str (S mark)]) (by kernel_rfl) (Cq _).e
    (mM (oP (Gd.sub (m:=1) G (by decide)) (ps:=[.str (S (qX W ((oI l).flatMap n5) Un))]) (by kernel_rfl) (Ii _).e (mM (nF x1) mP) (xi hM)) (mM (nF x5) mP)) (w9 hq.2 hq.1 m2)) (by rw [hdec])) oy F.plainAttrs_str F.slot_str_split F.type_str_split (mM (nF x5) mP) (qB (zp ?a ?b ?c) ?d)
   case a=>rw [m6,e0];rfl
   case b=>rw [m6];exact (mK (.i (.e xB xL) (.i (.l xA (.c 66)) (.l xA xB))) [_,_]) hz hJ
   case c=>rw [m6,m6];exact (mK (.i (.e xB xL) (.i (.l xC (.c 66)) (.i (.l xA (.a (.a xC xI) xI)) (.l xA xB)))) [_,_,_]) hz hJ We
   case d=>rw [hs,aB];rfl
 case k5=>
  intro q C g2 Ug hp _ k hf
  have hO:=G.offX i
  have G1:=Gd.comp G hO k hf rfl
  have hls:Txt.split (S (rB q)) (S [58,32])=[S (dd q.1),S q.2]:=Ia (hl q hp)
  have We:=zr (S (rB q)) (S [58,32]) ((S (rB q)).length+1)
  rw [m6,m6] at We
  have hi:=HH (hl q hp)
  refine oq G1 (ps:=[.list [.str (S (dd q.1)),.str (S q.2)]]) (by kernel_rfl) (by kernel_rfl) (mM ?t mP) (Kp (by simp)) (.inr ⟨_,rfl⟩)
  case t=>
   refine ro (p:=.str (S (rB q))) (T:="str") (by walk_at "ev") oy F.plainAttrs_str F.slot_str_split F.type_str_split (mM (p:=.str (S [58,32])) (nh (by kernel_rfl)) mP) (qB (zp ?a ?b ?c) ?d)
   case a=>rfl
   case b=>rw [m6];exact (mK (.i (.e xB xL) (.i (.l xA (.c 14)) (.l xA xB))) [_,_]) hz hi
   case c=>rw [m6,m6];exact (mK (.i (.e xB xL) (.i (.l xA (.a (.a xC xI) xI)) (.i (.l xC (.c 14)) (.l xA xB)))) [_,_,_]) hz We hi
   case d=>rw [hls];rfl
 case k12=>rw [wq];unfold hp;rw [aB];rfl
end
noncomputable def ww (e0:List En):Nat->List En
 |0=>e0
 |i+1=>(o9 0 (ww e0 i)).map vj
noncomputable def zx (e0:List En):Nat->HP
 |0=>[]
 |i+1=>zx e0 i++(ww e0 i).map sj
def Ao (i:Nat) (es:List En):Prop:=es.length<=4/\(∀e∈es,e.1<=2+i/\e.2.1∈sX/\e.2.2≠[]/\e.2.2.length+i<=5/\ ∀x∈e.2.2,x<128)/\es.Pairwise λa b=>zc a≠zc b
theorem Ao.ok (h:Ao i es) (hi:i<5):IT es:=
 ⟨h.1,λe he=>by have:=h.2.1 e he;exact ⟨by exact (mK (.i (.b xB xN) (.i (.l xA (.a xM xB)) (.l xA (.c 6)))) [_,_]) hi this.1,this.2.1,this.2.2.1,by exact (mK (.i (.l (.a xA xB) xN) (.l xA xN)) [_,_]) this.2.2.2.1,this.2.2.2.2⟩,h.2.2⟩
theorem za: ∀(es:List En) (a:Nat),∀e∈o9 a es,∃e'∈es,∃b,e=(e'.1,e'.2.1,oO b e'.2.2.dropLast)/\e'.2.2.dropLast≠[]
 |[],_,_,h=>nomatch h
 |(k,c,r)::t,a,e,h=>by
  rcases ar.mp h with h|h
  ·by_cases hr:r.dropLast=[]
   ·rw [if_pos hr] at h;cases h
   ·rw [if_neg hr] at h
    exact ⟨_,.head _,a,ak.mp h,hr⟩
  ·refine mX (za t _ e h) λe' h1 h2=> ?_
   exact ⟨e',.tail _ h1,h2⟩
theorem FA: ∀(es:List En) (a:Nat),(es.Pairwise λa b=>zc a≠zc b)->(o9 a es).Pairwise λa b=>zc a≠zc b
 |[],_,_=>.nil
 |(k,c,r)::t,a,h=>by
  refine eA (dU.mp h) λh1 h2=> ?_
  have ih:=FA t (pS a r.dropLast) h2
  show List.Pairwise _ (_++_)
  by_cases hr:r.dropLast=[]
  ·rw [if_pos hr];exact ih
  ·rw [if_neg hr]
   refine dU.mpr ⟨λe he=> ?_,ih⟩
   refine Nv (za t _ e he) λe' m b Ub z=> ?_;obtain rfl:=Ub
   exact h1 e' m
theorem Ao.next (h:Ao i es):Ao (i+1) ((o9 0 es).map vj):=by
 refine ⟨by rw [ah];exact ch (wR es 0) h.1,λe he=> ?_,?_⟩
 ·refine mX (aK.mp he) λe1 m1 Ub=> ?_;obtain rfl:=Ub
  refine Nv (za es 0 e1 m1) λe' m b Ub Uu=> ?_;obtain rfl:=Ub
  have o:=h.2.1 e' m
  refine ⟨?_,o.2.1,λq=>Uu ?_,?_,AC _ _⟩
  ·show (if e'.1=0 then 0 else e'.1+1)<=_
   split<;>(first|exact (mK (.i (.l xA (.a xM xB)) (.l (.a xA xI) (.a xM (.a xB xI)))) [_,_]) o.1|exact mK (.l xJ (.a xM (.a xA xI))) [_])
  ·have:=congrArg bj (show oO b e'.2.2.dropLast=[] from q)
   rw [tp] at this
   exact cC this
  ·show (oO _ _).length+_<=5
   rw [tp,fT]
   have:e'.2.2≠[]:=o.2.2.1
   have:0<e'.2.2.length:=dP.mpr this
   exact (mK (.i (.l (.a xA xB) xN) (.i (.b xJ xA) (.l (.a (.s xA xI) (.a xB xI)) xN))) [_,_]) o.2.2.2.1 this
 ·rw [mG];exact FA es 0 h.2.2
theorem CM (h:Ao 0 e0): ∀i,Ao i (ww e0 i)
 |0=>h
 |i+1=>(CM h i).next
theorem F5 (h:Ao 0 e0): ∀i,(zx e0 i).length<=4*i
 |0=>aN _
 |i+1=>by
  have:=F5 h i
  have:=(CM h i).1
  show (zx e0 i++_).length<=_
  rw [af,ah];exact (mK (.i (.l xA (.m 4 xC)) (.i (.l xB xK) (.l (.a xA xB) (.m 4 (.a xC xI))))) [_,_,_]) (by assumption) this
theorem tg.hide (a:tg h):tg (hideAll h [330]):=let ⟨m,n,e⟩:=a;⟨m,n.at' λo e=>sB (by decide) e,e⟩
section
variable {w:au} {A:aX} {g g':aW} {L D:aF} {is:List aF} {σ:m7} {Λ:List (aF×List PV)}
set_option maxHeartbeats 2000000 in
theorem OS (G:Gd w 5 (cH A g L D is g')) (S2:tg g') {dr h W:Nat} (he:IT es) (VE:sl.length<=100) (hκ:Ap κ LN) (hs:κ.lookup ("struck":Str)=aa (.inst D)) (hd:κ.lookup ("dress":Str)=aa (.int (dr:Nat)))
  (hE:tn Un) (hm:tn mark) (hW:12<=W) (WE:W<=100) (x4:κ.lookup ("width":Str)=aa (.int (W:Nat))) (x5:κ.lookup ("eol":Str)=aa (.str (S Un))) (x6:κ.lookup ("mark":Str)=aa (.str (S mark))) {J:gV->aW->Prop}:
  mZ mJ w (cH A g L D is g').env (cH A g L D is g').A (In (cH A g L D is g') (("hand",.int ((0:Int)+h))::("book",.hdr (hp (es.map oo)))::κ) [(D,hp sl)])
   (nB ry 0::nB ry 1::nB ry 2::nB ry 3::nB ry 4::nB ry 5::nB ry 6::nB ry 7::nB ry 8::[])
   (λfl hh=>((fl= .next\/fl= .cont)/\In (cH A g L D is g') (("book",.hdr (hp (((o9 0 es).map vj).map oo)))::κ) [(D,hp (sl++es.map sj))] hh)\/((∃v,fl= .ret v)/\J fl hh)):=by
 have hz:=aw
 refine NW G (dr:=dr) (h:=h) (by walk_at "lk") (by walk_at "lk") λu hu=> ?_
 generalize ht:dr/69984+h=t at*
 refine ql (p:=.int 0) mT ?_
 refine ql (p:=.list []) (qo mP (cx _)) ?_
 have a1:Ap κ LN:=hκ
 refine MJ (I':=In (cH A g L D is g') (("left",.list (hp ((o9 0 es).map oo)))::("ahead",.int (pM 0 es:Nat))::("value",.raw u)::("share",.fx (nH (qD t)))::("hand",.int ((0:Int)+h))::("book",.hdr (hp (es.map oo)))::κ) [(D,hp (sl++es.map sj))])
  (pf (σ':=("left",.list [])::("ahead",.int 0)::("value",.raw u)::("share",.fx (nH (qD t)))::("hand",.int ((0:Int)+h))::("book",.hdr (hp (es.map oo)))::κ) (by clear a1;walk_at "has") (Lj G he VE hu hκ hs (sO λg i=>i))) ?_
 have hl: ∀q∈(o9 0 es).map oo,o7 q:=λq hq=>by
  obtain ⟨e,m,rfl⟩:=aK.mp hq
  have:=A8 es 0 he.2.1 e m
  exact Pi this.1 this.2.1 this.2.2.1 this.2.2.2.1 this.2.2.2.2
 have h4:((o9 0 es).map oo).length<=4:=by rw [ah];exact ch (wR es 0) he.1
 refine Os G hl h4 hW WE hE (by walk_at "lk") (by walk_at "lk") (by walk_at "lk") ?_
 refine KU G S2 hl h4 hW WE hE (a:=pM 0 es) (t:=t) (zj es (by decide)) hu (by walk_at "lk") (by walk_at "lk") (by walk_at "lk") (by walk_at "lk") (by walk_at "lk") ?_
 refine pK.of (H0 G hl h4 hW WE hE hm (by walk_at "lk") (by walk_at "lk") ?_)
 rw [Ic he.2.1]
 exact sw (by clear a1;walk_at "has") rfl
end
section
variable {w:au} {A:aX} {g g':aW} {L D:aF} {is:List aF} {σ:m7} {Λ:List (aF×List PV)}
set_option maxHeartbeats 2000000 in
theorem MS (G:Gd w 5 (cV A g L D)) (S2:tg g) {dr H W:Nat} (he:Ao 0 e0) (hH:H<=5) (hκ:Ap κ LN) (hs:κ.lookup ("struck":Str)=aa (.inst D)) (hd:κ.lookup ("dress":Str)=aa (.int (dr:Nat)))
  (hE:tn Un) (hm:tn mark) (hW:12<=W) (WE:W<=100) (x4:κ.lookup ("width":Str)=aa (.int (W:Nat))) (x5:κ.lookup ("eol":Str)=aa (.str (S Un))) (x6:κ.lookup ("mark":Str)=aa (.str (S mark)))
  {sz:List Int} (G0:sz[3]? =aa (H:Int)) (x7:κ.lookup ("sizes":Str)=aa (.list (sz.map PV.int)))
  (hb:mZ mJ w (cV A g L D).env (cV A g L D).A (In (cV A g L D) (("book",.hdr (hp ((ww e0 H).map oo)))::κ) [(D,hp (zx e0 H))]) b J):
  mZ mJ w (cV A g L D).env (cV A g L D).A (In (cV A g L D) (("book",.hdr (hp (e0.map oo)))::κ) [(D,[])]) (nB nI 13::b) J:=by
 have hz:=aw
 refine wv G (l:=ag H) (V:=λi:Nat=>.int ((0:Int)+i)) (bs:=λi=>[("hand",.int ((0:Int)+i))]) (λi=>("book",.hdr (hp ((ww e0 i).map oo)))::κ) (λi=>[(D,hp (zx e0 i))]) ?h1 rfl rfl (λa is z=>nZ) ?h2 ?h3
 case h1=>
  refine pX G.zero (n:=H) (nA (p:=.list (sz.map PV.int)) (q:=.int 3) (nF (by walk_at "lk")) mT (ni (by exact mK (.L xJ xO) [] []) ?_ (by exact mK (.B xO xS) []))) (by exact (mK (.i (.l xA xN) (.l xA xQ)) [_]) hH) (by rfl)
  show (sz.map PV.int)[3]? =_
  rw [a7,G0];rfl
 case h2=>
  intro i x g2 Vd hx G2 kg
  have hx':x=i/\i<H:=by
   have:=aT.mp hx
   obtain ⟨h1,h2⟩:=this
   rw [be] at h1
   rw [cX] at h2
   exact ⟨h2.symm,h1⟩
  refine eA hx' ?_;clear hx';intro Ub Ux;obtain rfl:=Ub
  have S3:tg g2:=S2.keep kg
  exact OS G2 S3 ((CM he x).ok (by exact (mK (.i (.l xB xN) (.i (.b xA xB) (.b xA xN))) [_,_]) hH Ux)) (by have:=F5 he x;exact (mK (.i (.l xB xN) (.i (.b xC xB) (.i (.l xA (.m 4 xC)) (.l xA xP)))) [_,_,_]) hH Ux this) hκ hs hd hE hm hW WE x4 x5 x6
 case h3=>exact be▸hb
end
noncomputable def sV (rs:Nat->List Nat) (n:Nat):List IL:=(ag n).map λk=>(rs k).map λx:Nat=>(x:Int)
def sI (rs:Nat->List Nat) (n:Nat):IL:=zH (sV rs (n+1))
def vI (rs:Nat->List Nat):PV:=.list ((ag 4).map λn=>il (sI rs n))
theorem Lr (rs:Nat->List Nat):uU rs= .list ((sV rs 4).map il):=by
 unfold uU sV
 rw [aB]
 congr 1
 refine aV λn z=> ?_
 show _=PV.list (eV PV.int (eV _ _))
 rw [aB];rfl
theorem Ix (rs:Nat->List Nat) (h:n<4):(sV rs 4).take (n+1)=sV rs (n+1):=by
 unfold sV
 rw [<-iK,List.take_range,fX (by exact (mK (.i (.b xA xK) (.l (.a xA xI) xK)) [_]) h)]
section
variable {w:au} {A:aX} {g g':aW} {L D:aF} {is:List aF} {σ:m7} {Λ:List (aF×List PV)}
set_option maxHeartbeats 2000000 in
theorem OR (G:Gd w 5 (cV A g L D)) {rs:Nat->List Nat} (XT: ∀n<4,1<=(rs n).length/\(rs n).length<=5) (hr:σ.lookup ("rows":Str)=aa (uU rs))
  (hb:mZ mJ w (cV A g L D).env (cV A g L D).A (In (cV A g L D) (("told",vI rs)::σ) Λ) b J):mZ mJ w (cV A g L D).env (cV A g L D).A (In (cV A g L D) σ Λ) (nB nI 14::b) J:=by
 have VE:=aw
 refine v7 (l:=ag 4) (V:=λk:Nat=>.int ((0:Int)+k)) (bs:=λk=>[("n",.int ((0:Int)+k))]) (cl:=[("rows",L+5)]) [("rows",uU rs)] (λz=>ai) (λn=>il (sI rs n)) ?h1 ?h2 ?h3 ?h4 ?h5 ?ho ?h6 ?h7 ?h8 ?h9 ?h10 ?h11 ?h12
 case h1=>exact pX G.zero (n:=4) mT (by exact mK (.l xK xQ) [] []) (by rfl)
 case h2=>exact oa nR hr (.inl rfl) (λz=>rfl) (λz=>.inl rfl)
 case h3=>exact λq C g' Ug z=>nZ
 case h4=>exact λq C g' Ug z z z=>ot
 case h5=>
  intro n C g' Ug hn _ k hf hO
  have hn:=aL.mp hn
  have G1:=Gd.comp G hO k hf rfl
  have Xr: ∀r∈sV rs (n+1),1<=r.length/\r.length<=5:=λr hr=>by
   refine mX (aK.mp hr) λk hk Ub=> ?_;obtain rfl:=Ub
   have hk:=aL.mp hk
   have:=XT k (by exact (mK (.i (.b xB xK) (.i (.b xA (.a xB xI)) (.b xA xK))) [_,_]) hn hk)
   rw [ah];exact this
  have Uo:(sV rs (n+1)).length=n+1:=by unfold sV;rw [ah,be]
  refine oP (Gd.sub (m:=1) G1 (by decide)) (ps:=[.list ((sV rs (n+1)).map il)]) (by kernel_rfl) (NI _).e (mM (mW (tD (ps:=(sV rs 4).map il) (lo:=az) (hi:=aa ((n+1:Nat):Int)) ?a rO (n8 ?b) ?c) ?d) mP) (KD (by exact (mK (.i (.e xA (.a xB xI)) (.l xI xA)) [_,_]) Uo) (by exact (mK (.i (.b xB xK) (.i (.e xA (.a xB xI)) (.l xA xK))) [_,_]) hn Uo) (λr hr=>(Xr r hr).2) (λr hr=>(Xr r hr).1))
  case a=>rw [<-Lr];walk_at "ev"
  case b=>
   refine mW (mQ (p:=.int ((0:Int)+n)) (q:=.int 1) ?_ mT n6) (by exact congrArg _ (mK (.E (.a (.a xJ (.k xA)) xI) (.k (.a xA xI))) [_]))
   walk_at "ev"
  case c=>rw [ah];unfold sV;rw [ah,be];exact (mK (.i (.e xA xL) (.l xK xA)) [_]) VE
  case d=>rw [Kv,<-iK,Ix rs hn]
 case ho=>exact λh i=>G.offX i
 case h6=>decide
 case h7=>exact λz z=>by kernel_rfl
 case h8=>rfl
 case h9=>exact ⟨by rfl,trivial⟩
 case h10=>rfl
 case h11=>decide+kernel
 case h12=>exact wq▸hb
end
noncomputable def LD:List Str:=["hand","n","place","name","due"]
def qY (sz dt lt:Nat->Nat) (pl:Nat->Nat->Nat) (h n:Nat):HP:=if h<sz n then [(nj (if dt n=0 then 0 else dt n+h) (lt n),pC (128+pl n h))] else []
def sZ (sz dt lt:Nat->Nat) (pl:Nat->Nat->Nat) (i j:Nat):HP:=(ag i).flatMap (λh=>(ag 4).flatMap (qY sz dt lt pl h))++(ag j).flatMap (qY sz dt lt pl i)
theorem FH (sz dt lt:Nat->Nat) (pl:Nat->Nat->Nat) (i j:Nat):sZ sz dt lt pl i (j+1)=sZ sz dt lt pl i j++qY sz dt lt pl i j:=by
 unfold sZ
 rw [cy (n:=j),bV,<-aJ]
 simp
theorem Db (sz dt lt:Nat->Nat) (pl:Nat->Nat->Nat) (i:Nat):sZ sz dt lt pl (i+1) 0=sZ sz dt lt pl i 4:=by
 unfold sZ
 rw [cy (n:=i),bV]
 simp
theorem MY (sz dt lt:Nat->Nat) (pl:Nat->Nat->Nat) (h n:Nat):(qY sz dt lt pl h n).length<=1:=by
 unfold qY;split<;>simp
theorem wF (sz dt lt:Nat->Nat) (pl:Nat->Nat->Nat): ∀i j,j<=4->(sZ sz dt lt pl i j).length<=4*i+j
 |0,0,_=>aN _
 |i+1,0,_=>by rw [Db];exact wF sz dt lt pl i 4 (aN _)
 |i,j+1,h=>by
  rw [FH,af]
  have:=wF sz dt lt pl i j (by exact (mK (.i (.l (.a xA xI) xK) (.l xA xK)) [_]) h)
  have:=MY sz dt lt pl i j
  exact (mK (.i (.l xA (.a (.m 4 xC) xD)) (.i (.l xB xI) (.l (.a xA xB) (.a (.m 4 xC) (.a xD xI))))) [_,_,_,_]) (by assumption) this
theorem J9: ∀p<128,∃a b,([56,57,65,66,67,68,69,70]:List Nat)[p/16]? =aa a/\([48,49,50,51,52,53,54,55,56,57,65,66,67,68,69,70]:List Nat)[p % 16]? =aa b/\pC (128+p)=[61]++[a]++[b]:=by
 intro p hp
 have UK: ∀p<128,([56,57,65,66,67,68,69,70]:List Nat)[p/16]? =aa (pA ((128+p)/16))/\([48,49,50,51,52,53,54,55,56,57,65,66,67,68,69,70]:List Nat)[p % 16]? =aa (pA ((128+p) % 16)):=by decide+kernel
 exact ⟨_,_,(UK p hp).1,(UK p hp).2,rfl⟩
section
variable {w:au} {A:aX} {g g' g2:aW} {L D D':aF} {is Vd:List aF} {σ:m7} {Λ:List (aF×List PV)}
abbrev cQ (A:aX) (g:aW) (L D D':aF) (is:List aF) (g':aW) (Vd:List aF) (g2:aW):Sc:=(((((cV A g L D).addOwn D').addX is).at g').addX Vd).at g2
theorem oi.own' (h:oi c x b):oi (c.addOwn D') x b:=⟨h.kind,h.at',.tail _ h.own,h.only⟩
def Ts:List eh:=EU (nB (EU (nB nI 16)) 0)
set_option maxHeartbeats 2000000 in
theorem Oq (G:Gd w 5 (cQ A g L D D' is g' Vd g2)) {sz dt lt:Nat->Nat} (hn:n<4) (hh:h<5) (VU:dt n<3) (hll:l.length<=100)
  (We:h<sz n->(sI rs n)[h]? =aa ((pl n h:Nat):Int)/\pl n h<128) (hκ:Ap κ LD) (hD:D≠D')
  (x1:κ.lookup ("sizes":Str)=aa (.list ((ag 4).map λn=>.int (sz n:Nat)))) (x2:κ.lookup ("dots":Str)=aa (.list ((ag 4).map λn=>.int (dt n:Nat)))) (x3:κ.lookup ("letters":Str)=aa (.list ((ag 4).map λn=>.str (S [lt n])))) (x4:κ.lookup ("told":Str)=aa (vI rs)) {J:gV->aW->Prop}:
  mZ mJ w (cQ A g L D D' is g' Vd g2).env (cQ A g L D D' is g' Vd g2).A (In (cQ A g L D D' is g' Vd g2) (("n",.int ((0:Int)+n))::("hand",.int ((0:Int)+h))::("due",.raw (.ref D'))::κ) [(D',hp l),(D,sl)]) Ts
   (λfl hh=>((fl= .next\/fl= .cont)/\In (cQ A g L D D' is g' Vd g2) (("hand",.int ((0:Int)+h))::("due",.raw (.ref D'))::κ) [(D',hp (l++qY sz dt lt pl h n)),(D,sl)] hh)\/((∃v,fl= .ret v)/\J fl hh)):=by
 have hz:=aw
 have e0:((0:Int)+n).toNat=n:=by exact mK (.e (.t (.a xJ (.k xA))) xA) [_]
 have e1:((0:Int)+h).toNat=h:=by exact mK (.e (.t (.a xJ (.k xA))) xA) [_]
 refine nk (d:=decide ((0:Int)+h<(sz n:Nat))) (m8 (p:=.int ((0:Int)+h)) (q:=.int (sz n:Nat)) ?t1 (nA (p:=.list ((ag 4).map λn=>.int (sz n:Nat))) (q:=.int ((0:Int)+n)) ?t2 ?t3 (ni (by exact mK (.L xJ (.a xJ (.k xA))) [_]) (by rw [e0];exact oZ hn) (by exact (mK (.i (.b xA xK) (.B (.a xJ (.k xA)) xS)) [_]) hn))) rA) (λhd=> ?yes) (λhd=> ?no)
 case t1=>walk_at "ev"
 case t2=>walk_at "ev"
 case t3=>walk_at "ev"
 case no=>
  have Ux: ¬h<sz n:=by have:=of_decide_eq_false hd;exact (mK (.i (.n (.B (.a xJ (.k xA)) (.k xB))) (.n (.b xA xB))) [_,_]) this
  have e:l++qY sz dt lt pl h n=l:=by unfold qY;rw [if_neg Ux,bK]
  rw [e]
  exact sw (by walk_at "has") rfl
 case yes=>
  have Ux:h<sz n:=by have:=of_decide_eq_true hd;exact (mK (.i (.B (.a xJ (.k xA)) (.k xB)) (.b xA xB)) [_,_]) this
  refine eA (We Ux) λp1 p2=> ?_
  have e:qY sz dt lt pl h n=[(nj (if dt n=0 then 0 else dt n+h) (lt n),pC (128+pl n h))]:=by unfold qY;rw [if_pos Ux]
  rw [e]
  refine mS (p:=.int (pl n h:Nat)) (nA (p:=il (sI rs n)) (q:=.int ((0:Int)+h)) (nA (p:=vI rs) (q:=.int ((0:Int)+n)) ?a1 ?a2 (ni (by exact mK (.L xJ (.a xJ (.k xA))) [_]) (by rw [e0];exact oZ hn) (by exact (mK (.i (.b xA xK) (.B (.a xJ (.k xA)) xS)) [_]) hn))) ?a3 (ni (by exact mK (.L xJ (.a xJ (.k xA))) [_]) (by rw [e1];show (eV PV.int _)[h]? =_;rw [a7,p1];rfl) (by exact (mK (.i (.b xA xN) (.B (.a xJ (.k xA)) xS)) [_]) hh))) ?_
  case a1=>walk_at "ev"
  case a2=>walk_at "ev"
  case a3=>walk_at "ev"
  have hdot: ∀{σ':m7} {Λ':List (aF×List PV)},aD ("n":Str) σ'=aa (.int ((0:Int)+n))->aD ("dots":Str) σ'=aa (.list ((ag 4).map λn=>.int (dt n:Nat)))-> ∀{p1 p2 p3:Pos},
    Ev mJ w (fs (cQ A g L D D' is g' Vd g2) σ' Λ') (.Subscript (.Name "dots" p1) (.Name "n" p2) p3) (.int (dt n:Nat)):=by
   intro σ' Λ' h1 h2 p1 p2 p3
   exact nA (p:=.list ((ag 4).map λn=>.int (dt n:Nat))) (q:=.int ((0:Int)+n)) (nF h2) (nF h1) (ni (by exact mK (.L xJ (.a xJ (.k xA))) [_]) (by rw [e0];exact oZ hn) (by exact (mK (.i (.b xA xK) (.B (.a xJ (.k xA)) xS)) [_]) hn))
  refine mS (p:=.str (S (nj (if dt n=0 then 0 else dt n+h) (lt n)))) (mW (mQ (p:=.str (S (aH (if dt n=0 then 0 else dt n+h) [46]).flatten)) (q:=.str (S [lt n])) (mQ (p:=.str (S [46])) (q:=.int ((if dt n=0 then 0 else dt n+h:Nat):Int)) (nh (by kernel_rfl)) ?b1 (yq (by decide) ?b2)) (nA (p:=.list ((ag 4).map λn=>.str (S [lt n]))) (q:=.int ((0:Int)+n)) ?b3 ?b4 (ni (by exact mK (.L xJ (.a xJ (.k xA))) [_]) (by rw [e0];exact oZ hn) (by exact (mK (.i (.b xA xK) (.B (.a xJ (.k xA)) xS)) [_]) hn))) (oG ?b5)) ?b6) ?rest
   (.inr ⟨L+9,oi.loop (oi.loop (c:=(cV A g L D).addOwn D') (oi.own' (Ci (by rfl) (by rfl))))⟩)
  case b1=>
   refine D0 (c:=decide ((dt n:Int)>0)) (m8 (p:=.int (dt n:Nat)) (q:=.int 0) (hdot (by walk_at "lk") (by walk_at "lk")) mT zq) (λhc=> ?y) (λhc=> ?z)
   case y=>
    have:dt n≠0:=by have:=of_decide_eq_true hc;exact (mK (.i (.B xJ (.k xA)) (.n (.e xA xJ))) [_]) this
    rw [if_neg this]
    refine mW (mQ (p:=.int (dt n:Nat)) (q:=.int ((0:Int)+h)) (hdot (by walk_at "lk") (by walk_at "lk")) ?_ n6) (by exact congrArg _ (mK (.E (.a (.k xA) (.a xJ (.k xB))) (.k (.a xA xB))) [_,_]))
    walk_at "ev"
   case z=>
    have:dt n=0:=by have:=of_decide_eq_false hc;exact (mK (.i (.n (.B xJ (.k xA))) (.e xA xJ)) [_]) this
    rw [if_pos this];exact mT
  case b2=>split<;>(first|exact (mK (.i (.b xB xN) (.i (.b xA xO) (.l (.a xA xB) xQ))) [_,_]) hh VU|exact mK (.l xJ xQ) [])
  case b3=>walk_at "ev"
  case b4=>walk_at "ev"
  case b5=>
   rw [zW,a8]
   have:(if dt n=0 then 0 else dt n+h)<=10:=by split<;>(first|exact (mK (.i (.b xB xN) (.i (.b xA xO) (.l (.a xA xB) (.c 10)))) [_,_]) hh VU|exact mK (.l xJ (.c 10)) [])
   exact (mK (.i (.e xB xL) (.i (.l xA (.c 10)) (.l (.a xA xI) xB))) [_,_]) hz this
  case b6=>rw [zW];rfl
  case rest=>
   refine nu (J9 (pl n h) p2) λa b q1 q2 q3=> ?_
   have m0:(((pl n h:Nat):Int).fdiv 16).toNat=pl n h/16:=by rw [bX _ (by decide)];exact mK (.e (.t (.d (.k xA) 16)) (.d xA 16)) [_]
   have m1:(((pl n h:Nat):Int).fmod 16).toNat=pl n h % 16:=by rw [bM _ (by decide)];exact mK (.e (.t (.e (.k xA) 16)) (.e xA 16)) [_]
   have m2:0<=((pl n h:Nat):Int).fdiv 16/\((pl n h:Nat):Int).fdiv 16<16:=by rw [bX _ (by decide)];exact (mK (.i (.b xA xR) (.a (.L xJ (.d (.k xA) 16)) (.B (.d (.k xA) 16) (.c 16)))) [_]) p2
   have m3:=qU (a:=((pl n h:Nat):Int)) (m:=16) (by decide)
   refine BJ (D:=D') (l:=hp l) (p:=.tup [.str (S (nj (if dt n=0 then 0 else dt n+h) (lt n))),.str (S (pC (128+pl n h)))]) (by walk_at "lk") (oE (mM ?c1 (mM (mW (mQ (p:=.str (S ([61]++[a]))) (q:=.str (S [b])) (mQ (p:=.str (S [61])) (q:=.str (S [a])) (nh (by kernel_rfl))
    (nA (p:=.str (S [56,57,65,66,67,68,69,70])) (q:=.int (((pl n h:Nat):Int).fdiv 16)) (nh (by kernel_rfl)) (mQ (p:=.int (pl n h:Nat)) (q:=.int 16) ?c2 mT (pb (by decide) (by decide))) (qR m2.1 (by rw [m0];exact q1) (by exact (mK (.i (.B xA (.c 16)) (.B xA xS)) [] [_]) m2.2))) (oG (by exact (mK (.i (.e xA xL) (.l xM xA)) [_]) hz)))
    (nA (p:=.str (S [48,49,50,51,52,53,54,55,56,57,65,66,67,68,69,70])) (q:=.int (((pl n h:Nat):Int).fmod 16)) (nh (by kernel_rfl)) (mQ (p:=.int (pl n h:Nat)) (q:=.int 16) ?c3 mT (oA (by decide))) (qR m3.1 (by rw [m1];exact q2) (by exact (mK (.i (.B xA (.c 16)) (.B xA xS)) [] [_]) m3.2))) (oG (by exact (mK (.i (.e xA xL) (.l xO xA)) [_]) hz))) (by rw [q3])) mP)) (by exact (mK (.i (.e xA xL) (.l xM xA)) [_]) hz)) ?c4 ?c5 ?c6
   case c1=>walk_at "ev"
   case c2=>walk_at "ev"
   case c3=>walk_at "ev"
   case c4=>unfold hp;rw [ah];exact (mK (.i (.l xA xP) (.i (.e xB xL) (.l xA xB))) [_,_]) hll hz
   case c5=>
    intro q hq
    rw [ak.mp hq];exact hD
   case c6=>exact sw (by walk_at "has") (by unfold hp;rw [bi];rfl)
end
theorem AX (h:(ag n)[i]? =aa x):x=i/\i<n:=by
 obtain ⟨h1,h2⟩:=aT.mp h
 rw [be] at h1
 rw [cX] at h2
 exact ⟨h2.symm,h1⟩
section
variable {w:au} {A:aX} {g g' g2:aW} {L D:aF} {is Vd:List aF} {σ:m7} {Λ:List (aF×List PV)}
theorem RD (hk:pH.scope.names.lookup x=aa .cell) (hb:(bv (L+1) pH.scope.names []).lookup x=aa b):oi ((cV A g L D).addOwn D') x b:=oi.own' (Ci hk hb)
set_option maxHeartbeats 2000000 in
theorem Q1 (G:Gd w 5 (cV A g L D)) {sz dt lt:Nat->Nat} {pl:Nat->Nat->Nat} (hH:H<=5) (VU: ∀n<4,dt n<3) (hsz:sz 3=H)
  (We: ∀n<4,∀h<sz n,(sI rs n)[h]? =aa ((pl n h:Nat):Int)/\pl n h<128) (hκ:Ap κ LD)
  (x1:κ.lookup ("sizes":Str)=aa (.list ((ag 4).map λn=>.int (sz n:Nat)))) (x2:κ.lookup ("dots":Str)=aa (.list ((ag 4).map λn=>.int (dt n:Nat)))) (x3:κ.lookup ("letters":Str)=aa (.list ((ag 4).map λn=>.str (S [lt n])))) (x4:κ.lookup ("told":Str)=aa (vI rs))
  (hb:mZ mJ w (cV A g L D).env (cV A g L D).A (In (cV A g L D) (("due",.list (hp (sZ sz dt lt pl H 0)))::κ) [(D,sl)]) b J):
  mZ mJ w (cV A g L D).env (cV A g L D).A (In (cV A g L D) κ [(D,sl)]) (nB nI 15::nB nI 16::b) J:=by
 have hz:=aw
 refine w1 λD' hg hX=> ?_
 have hDD:D≠D':=λq=>hX (by exact q▸(ax _ (.head _)))
 have GD:Gd w 5 ((cV A g L D).addOwn D'):=G.addOwn D'
 refine rQ (c:=(cV A g L D).addOwn D') GD (l:=ag H) (V:=λi:Nat=>.int ((0:Int)+i)) (bs:=λi=>[("hand",.int ((0:Int)+i))]) (λz=>("due",.raw (.ref D'))::κ) (λi=>[(D',hp (sZ sz dt lt pl i 0)),(D,sl)]) ?h1 rfl rfl (λa is z=>nZ) ?h2 ?h3
 case h1=>
  refine pX GD.zero (n:=H) (nA (p:=.list ((ag 4).map λn=>.int (sz n:Nat))) (q:=.int 3) (nF (by walk_at "lk")) mT (ni (by exact mK (.L xJ xO) [] []) ?_ (by exact mK (.B xO xS) []))) (by exact (mK (.i (.l xA xN) (.l xA xQ)) [_]) hH) (by rfl)
  show ((ag 4).map λn=>PV.int (sz n:Nat))[3]? =_
  rw [oZ (by decide),hsz]
 case h2=>
  intro h x g2 Vd hx G2
  refine eA (AX hx) λUb Ux=> ?_;obtain rfl:=Ub
  refine rQ G2 (l:=ag 4) (V:=λi:Nat=>.int ((0:Int)+i)) (bs:=λi=>[("n",.int ((0:Int)+i))]) (λz=>("hand",.int ((0:Int)+x))::("due",.raw (.ref D'))::κ) (λj=>[(D',hp (sZ sz dt lt pl x j)),(D,sl)]) ?k1 rfl rfl (λa is z=>nZ (.inr ⟨L+4,oi.addX (oi.loop (RD (by rfl) (by rfl)))⟩)) ?k2 ?k3
  case k1=>exact pX G2.zero (n:=4) mT (by exact mK (.l xK xQ) [] []) (by rfl)
  case k2=>
   intro n y g3 is3 hy G3
   refine eA (AX hy) λUb Wq=> ?_;obtain rfl:=Ub
   rw [FH]
   exact Oq G3 Wq (by exact (mK (.i (.l xB xN) (.i (.b xA xB) (.b xA xN))) [_,_]) hH Ux) (VU y Wq) (by have:=wF sz dt lt pl x y (by exact (mK (.i (.b xA xK) (.l xA xK)) [_]) Wq);exact (mK (.i (.l xB xN) (.i (.b xC xB) (.i (.b xD xK) (.i (.l xA (.a (.m 4 xC) xD)) (.l xA xP))))) [_,_,_,_]) hH Ux Wq this) (λq=>We y Wq x q) hκ hDD x1 x2 x3 x4
  case k3=>
   rw [show (ag 4).length=4 from rfl,Db]
   exact sw (by walk_at "has") rfl
 case h3=>
  rw [be]
  refine w4 (c:=cV A g L D) "due" BF (λq hq=>by exact (ak.mp hq)▸hDD) hX ?_ (.tail _ (.head _))
  exact pf (σ':=("due",.list (hp (sZ sz dt lt pl H 0)))::κ) (by walk_at "has") hb
end
noncomputable def oB:List Nat:=[61,63,120,63,113,63]
def rj:List Nat:=61::63::120::113::32::9::xe
noncomputable def lw (c:Nat):Nat:=if 65<=c/\c<=90 then c+32 else c
theorem QF: ∀c∈rj,Unicode.lowerOf c=[lw c]/\(c==0x3A3)=false:=by decide+kernel
theorem KN (h: ∀c∈l,c∈rj):Txt.lower (S l)=S (l.map lw):=by
 unfold Txt.lower
 rw [placed_single (S l) _ lw]
 ·simp [S]
 ·intro i c hc
  have hc:l[i]? =aa c:=by simpa [S] using hc
  have hm:=QF c (h c (bu hc))
  unfold Unicode.lowerAt
  rw [JQ,hc]
  simp only [hm.2,jP,a9,if_false]
  exact hm.1
theorem Dm (Uu:l≠[]) (h:EB l):Txt.lines (S l)=[S l]:=by
 have hs:jI (S l)=[(0,l.length,l.length)]:=by
  rw [StrLaws.ls_eq,m6]
  have:=zF (S l) l.length 0 (#[],0) λi h1 h2=>.inr (by rw [JG];exact h _ (yh (by exact (mK (.i (.b xA (.a xJ xB)) (.b xA xB)) [_,_]) h2)))
  show jN (S l) (iC (m:=Id) _ _ _).run=_
  rw [this]
  unfold jN
  have hp:0<l.length:=dP.mpr Uu
  rw [m6,if_pos hp];rfl
 have hl:kr (S l)=[S l]:=by
  unfold kr lineCuts
  rw [hs]
  simp only [ba,gX]
  congr 1
  apply iw
  apply dO.mp
  rw [dq,g5,eG]
  have:(S l).cps.toList=l:=by simp [S]
  rw [this]
  exact eJ
 unfold Txt.lines
 split
 ·rfl
 ·exact hl
theorem Ot (h:c9 c=false):Txt.rstrip (S (l++[c]++[32,9]))=S (l++[c]):=by
 have s1:c9 32=ai:=by decide+kernel
 have s2:c9 9=ai:=by decide+kernel
 have hhi:stripHi c9 ai (S (l++[c]++[32,9])) 0=(l++[c]).length:=by
  unfold stripHi
  simp [S,h,s1,s2,fJ]
 have hs:lQ c9 false ai (S (l++[c]++[32,9]))=false:=by
  unfold lQ stripLo
  simp only [a9,if_false,hhi]
  rw [m6];simp
 unfold Txt.rstrip Txt.stripBy
 rw [hs]
 unfold PySem.stripped stripLo
 simp only [a9,if_false,hhi]
 apply iw
 apply dO.mp
 rw [dq,g5,eG]
 have:(S (l++[c]++[32,9])).cps.toList=l++[c]++[32,9]:=by simp [S]
 rw [this,gm]
theorem Le (a b:List Nat):Txt.endswith (S (a++b)) (S b)=ai:=by
 unfold Txt.endswith
 rw [m6,m6,yl,af]
 rw [show a.length+b.length - b.length=a.length by exact mK (.e (.s (.a xA xB) xB) xA) [_,_],List.drop_left,eJ]
 simp
theorem Fb (h1:[13,10].contains (UC.getLastD 0)=false) (h2:rg UC mark=body++mark) (hm:mark≠[]):vy UC mark=body:=by
 unfold vy
 rw [h2,if_pos ⟨h1,Le _ _⟩,BG _ _ (dP.mpr hm),af,jb,gm]
theorem Sd: ∀c<256,hx (lw (pA (c/16)))=ai/\hx (lw (pA (c % 16)))=ai/\16*oz (lw (pA (c/16)))+oz (lw (pA (c % 16)))=c/\lw (pA (c/16))≠61/\lw (pA (c % 16))≠61:=by decide+kernel
theorem EO (e t:List Nat): ∀v:List Nat,vB v->nO e ((toks v).map lw++t)=v++nO e t
 |[],_=>rfl
 |c::v,h=>by
  have hc:=h c (.head _)
  have k:=Sd c hc.2
  have ih:=EO e t v λx hx=>h x (.tail _ hx)
  rw [s9]
  show nO e (lw 61::lw (pA (c/16))::lw (pA (c % 16))::((toks v).map lw++t))=_
  rw [show lw 61=61 from rfl,nO,if_pos ⟨rfl,k.1,k.2.1⟩,k.2.2.1,ih];rfl
theorem Dv (e t:List Nat) (h:t≠[]):nO e (oB++t)=oB++nO e t:=by
 show nO e (61::63::120::([63,113,63]++t))=_
 rw [nO,if_neg (λq=>absurd q.2.1 (by decide+kernel))]
 have:=yx e t [63,120,63,113,63] (by decide)
 show 61::nO e ([63,120,63,113,63]++t)=_
 rw [this];rfl
theorem zi (h:vB v): ∀c∈toks v,c∈rj:=λc hc=>by
 rcases ao.mp (xW h c hc) with rfl|h
 ·exact .head _
 ·exact aM [61,63,120,113,32,9] h
theorem Nj: ∀c∈rj,cJ c=(c==9&&false)/\cJ (lw c)=false:=by decide+kernel
theorem Oc (h:vB v) (hm:tn mark):vy ((oB++toks v++[63]).map lw++[32,9]) mark=oB++v++[63]:=by
 have Uu:mark≠[]:=by rcases hm with rfl|rfl|rfl<;>decide
 have V2: ∀c∈oB++toks v++[63],c∈rj:=by
  intro c hc
  rcases ar.mp hc with hc|hc
  ·rcases ar.mp hc with hc|hc
   ·exact (by decide: ∀c∈oB,c∈rj) c hc
   ·exact zi h c hc
  ·exact (by decide: ∀c∈[63],c∈rj) c hc
 refine Fb ?_ ?_ Uu
 ·rw [show ([32,9]:List Nat)=[32]++[9] from rfl,<-aJ,fU];decide
 ·have hb:EB ((oB++toks v++[63]).map lw++[32,9]):=by
   intro c hc
   rcases ar.mp hc with hc|hc
   ·obtain ⟨d,hd,rfl⟩:=aK.mp hc
    exact (Nj d (V2 d hd)).2
   ·exact (by decide+kernel: ∀c∈[32,9],cJ c=false) c hc
  have e1:(oB++toks v++[63]).map lw=(oB.map lw++(toks v).map lw)++[63]:=by rw [bi,bi];rfl
  unfold rg o0
  rw [Dm (by simp) hb,e1,eZ,Ot (by decide+kernel),gY]
  have e2:(S (oB.map lw++(toks v).map lw++[63])).cps.toList=oB++((toks v).map lw++[63]):=by simp [S];decide
  rw [e2,Dv _ _ (by simp),EO _ _ _ h]
  show oB++(v++63::mark)=_
  simp
theorem yb: ∀c∈xe,[13,10].contains c=false/\c9 c=false/\c≠61:=by decide+kernel
theorem Ov (h:vB v) (ha:a∈xe) (hm:tn mark):vy (oB++toks v++[61,a]) mark=oB++v++[61,a]:=by
 have Uu:mark≠[]:=by rcases hm with rfl|rfl|rfl<;>decide
 have e0:oB++toks v++[61,a]=(oB++toks v++[61])++[a]:=by simp
 refine Fb ?_ ?_ Uu
 ·rw [e0,fU];exact (yb a ha).1
 ·have hb:EB (oB++toks v++[61,a]):=by
   intro c hc
   have V2:c∈rj:=by
    rcases ar.mp hc with hc|hc
    ·rcases ar.mp hc with hc|hc
     ·exact (by decide: ∀c∈oB,c∈rj) c hc
     ·exact zi h c hc
    ·rcases ao.mp hc with rfl|hc
     ·exact .head _
     ·rw [ak.mp hc];exact aM [61,63,120,113,32,9] ha
   have:=(Nj c V2).1
   rw [iq] at this;exact this
  unfold rg o0
  rw [Dm (by simp) hb,e0,eZ,ye (yb a ha).2.1,gY]
  have e2:(S (oB++toks v++[61]++[a])).cps.toList=oB++(toks v++[61,a]):=by simp [S]
  rw [e2,Dv _ _ (by simp),wH _ _ _ h]
  have e3:nO mark [61,a]=61::a::mark:=by
   rw [nO,nO,if_neg (yb a ha).2.2]
  rw [e3];simp
theorem Pz (ht: ∀x∈t,x<128) (Uu:t≠[]):DW ((mY t).map ia) [120]=oB++toks (mY t)++[63,61]:=by
 unfold DW
 have e1:((mY t).map ia).isEmpty=false:=by cases t with
  |nil=>exact absurd rfl Uu
  |cons x t=>rfl
 rw [e1]
 have UK: ∀c<256,128<=c->vv c=pC c:=by decide+kernel
 have e2:(((mY t).map ia).map (·.toNat))=mY t:=by
  rw [aB]
  conv=>rhs;rw [<-lh (mY t)]
  refine aV λc hc=> ?_
  have:=t6 ht c hc
  show (ia c).toNat=c
  rw [UInt8.toNat_ofNat'];exact (mK (.i (.b xA (.c 256)) (.e (.e xA 256) xA)) [_]) this.2
 rw [e2]
 have e3:(mY t).flatMap vv=toks (mY t):=by
  unfold toks
  rw [cn,cn]
  congr 1
  exact aV λc hc=>by have:=t6 ht c hc;exact UK c this.2 this.1
 rw [e3];rfl
end
section
open PySem.Calls PyProof.Rows PySem.Builtin.Str PySem.SeqAt
def vC (l:List Nat):Prop:= ∀c∈l,c<256
def sd (x:List Nat):iu:=.str (S x)
def td (q:List Nat×List Nat):iu:=.tuple [.str (S q.1),.str (S q.2)]
theorem IE (h:vC x):(sd x).canLay0=ai:=by
 show (S x).cps.all (· <0x110000)=ai
 have e:(S x).cps=x.toArray:=rfl
 rw [e]
 simp only [List.all_toArray,br,decide_eq_true_eq]
 intro c hc
 have:=h c hc
 exact (mK (.i (.b xA (.c 256)) (.b xA (.c 1114112))) [_]) this
theorem Cc: ∀ls:List (List Nat),wL (ls.map λx=>.str (S x))=aa (ls.map sd)
 |[]=>rfl
 |x::ls=>by
  show (match pd (.str (S x)),wL (ls.map λx=>.str (S x)) with|some d,aa ds=>aa (d::ds)|_,_=>jr)=_
  rw [Cc ls];rfl
theorem GR: ∀l:HP,wL (hp l)=aa (l.map td)
 |[]=>rfl
 |q::l=>by
  show (match pd (.tup [.str (S q.1),.str (S q.2)]),wL (hp l) with|some d,aa ds=>aa (d::ds)|_,_=>jr)=_
  rw [GR l];rfl
theorem Ck {α:Type} {f:α->iu}: ∀{ls:List α},(∀x∈ls,(f x).canLay0=ai)->lH (ls.map f)=ai
 |[],_=>rfl
 |x::ls,h=>by
  show ((f x).canLay0&&lH (ls.map f))=ai
  rw [h x (.head _),Ck λy hy=>h y (.tail _ hy)];rfl
theorem AI {α:Type} {f:α->iu}: ∀{ls:List α},(∀x∈ls,(f x).depth<=k)->fR (ls.map f)<=k
 |[],_=>cx _
 |x::ls,h=>by
  exact Nat.max_le.mpr ⟨h x (.head _),AI λy hy=>h y (.tail _ hy)⟩
theorem zN {α:Type} {f:α->iu} (h: ∀x,da (f x) (f x)=ai): ∀ls:List α,gu (ls.map f) (ls.map f)=ai
 |[]=>by simp [gu]
 |x::ls=>by
  rw [ba,gu,h x,zN h ls];rfl
theorem Nh (x:List Nat):da (sd x) (sd x)=ai:=by simp [sd,da]
theorem RJ (q:List Nat×List Nat):da (td q) (td q)=ai:=by simp [td,da,gu]
theorem Ds (h:d.canLay0=ai) (k:d.depth<=64):shaped d=ai:=by
 unfold shaped;rw [h,decide_eq_true k];rfl
theorem uW {ls:List (List Nat)} (h: ∀x∈ls,vC x):shaped (.list (ls.map sd))=ai:=
 Ds (Ck λx hx=>IE (h x hx)) (by
  have:fR (ls.map sd)<=0:=AI λx z=>aN _
  exact (mK (.i (.l xA xJ) (.l (.a xA xI) (.c 64))) [_]) this)
theorem z8 {l:HP} (h: ∀q∈l,vC q.1/\vC q.2):shaped (.list (l.map td))=ai:=
 Ds (Ck λq hq=>by
  show ((sd q.1).canLay0&&((sd q.2).canLay0&&ai))=ai
  rw [IE (h q hq).1,IE (h q hq).2];rfl) (by
  have:fR (l.map td)<=1:=AI λx z=>by
   show fR [.str (S x.1),.str (S x.2)]+1<=1
   simp [fR,iu.depth]
  exact (mK (.i (.l xA xI) (.l (.a xA xI) (.c 64))) [_]) this)
section
variable {prog:aG} {w:au} {A:aX} {X:List aF}
theorem Hh {ls:List (List Nat)} (hu:A.units+64<fw) (h: ∀x∈ls,vC x):og prog w A X (bP .NotEq) (.list (ls.map λx=>.str (S x))) (.list (ls.map λx=>.str (S x))) (.bool false):=by
 have e:pd (.list (ls.map λx=>.str (S x)))=aa (.list (ls.map sd)):=by show (wL _).map _=_;rw [Cc];rfl
 have:=Fm (prog:=prog) (w:=w) (X:=X) hu e e (uW h) (uW h)
 have q:da (.list (ls.map sd)) (.list (ls.map sd))=ai:=by rw [da];exact zN Nh ls
 rw [q] at this;exact this
theorem OK {ls:List (List Nat)} (hu:A.units+64<fw) (h: ∀x∈ls,vC x):og prog w A X (bP .Eq) (.list (ls.map λx=>.str (S x))) (.list (ls.map λx=>.str (S x))) (.bool ai):=by
 have e:pd (.list (ls.map λx=>.str (S x)))=aa (.list (ls.map sd)):=by show (wL _).map _=_;rw [Cc];rfl
 have:=Fp (prog:=prog) (w:=w) (X:=X) hu e e (uW h) (uW h)
 have q:da (.list (ls.map sd)) (.list (ls.map sd))=ai:=by rw [da];exact zN Nh ls
 rw [q] at this;exact this
theorem Ch (hu:A.units+64<fw) (h: ∀q∈l,vC q.1/\vC q.2):og prog w A X (bP .Eq) (.list (hp l)) (.list (hp l)) (.bool ai):=by
 have e:pd (.list (hp l))=aa (.list (l.map td)):=by show (wL _).map _=_;rw [GR];rfl
 have:=Fp (prog:=prog) (w:=w) (X:=X) hu e e (z8 h) (z8 h)
 have q:da (.list (l.map td)) (.list (l.map td))=ai:=by rw [da];exact zN RJ l
 rw [q] at this;exact this
end
end
section
open PySem.Calls PyProof.Rows PySem.Builtin.Str
theorem HF {α:Type} (f:Nat->α) (s:Nat): ∀H,((ag H).flatMap λh=>if h<s then [f h] else [])=(ag (min s H)).map f
 |0=>by rw [kQ];rfl
 |H+1=>by
  rw [cy,bV,HF f s H]
  by_cases h:H<s
  ·rw [show min s (H+1)=H+1 by exact (mK (.i (.b xB xA) (.e (.n xA (.a xB xI)) (.a xB xI))) [_,_]) h,show min s H=H by exact (mK (.i (.b xB xA) (.e (.n xA xB) xB)) [_,_]) h,cy,bi]
   simp [h]
  ·rw [show min s (H+1)=s by exact (mK (.i (.n (.b xB xA)) (.e (.n xA (.a xB xI)) xA)) [_,_]) h,show min s H=s by exact (mK (.i (.n (.b xB xA)) (.e (.n xA xB) xA)) [_,_]) h]
   simp [h]
theorem J2 {α:Type} (X:List α): ∀n<4,((ag 4).flatMap λm=>if m=n then X else [])=X:=by
 intro n hn
 have:ag 4=[0,1,2,3]:=rfl
 rw [this]
 match n,hn with
 |0,_=>simp
 |1,_=>simp
 |2,_=>simp
 |3,_=>simp
theorem CX {α:Type} (p:α->Bool): ∀l:List α,l[l.findIdx p]? =(l.filter p).head?
 |[]=>rfl
 |a::l=>by
  rw [List.findIdx_cons]
  cases h:p a with
  |true=>rw [gS h];rfl
  |false=>
   rw [gU (by exact h▸dz)]
   show (a::l)[(List.findIdx p l+1)]? =_
   rw [List.getElem?_cons_succ];exact CX p l
section
variable {sz dt lt:Nat->Nat} {pl:Nat->Nat->Nat}
structure uJ (sz dt lt:Nat->Nat):Prop where
 lets: ∀n<4,lt n∈sX
 keys: ∀n<4,∀m<4,yk (lt n)=yk (lt m)->n=m
 dots: ∀n<4,dt n<3
 some: ∀n<4,1<=sz n/\sz n<=sz 3
 five:sz 3<=5
noncomputable def kk (dt:Nat->Nat) (h n:Nat):Nat:=if dt n=0 then 0 else dt n+h
def qF (sz dt lt:Nat->Nat) (pl:Nat->Nat->Nat):HP:=sZ sz dt lt pl (sz 3) 0
theorem zP:qF sz dt lt pl=(ag (sz 3)).flatMap λh=>(ag 4).flatMap (qY sz dt lt pl h):=by
 unfold qF sZ;simp
theorem wo (W:uJ sz dt lt) (h:q∈qF sz dt lt pl): ∃i<sz 3,∃n<4,i<sz n/\q=(nj (kk dt i n) (lt n),pC (128+pl n i)):=by
 rw [zP] at h
 refine mX (cU.mp h) λi hi h=> ?_
 refine mX (cU.mp h) λn hn h=> ?_
 unfold qY at h
 split at h
 ·rename_i hl
  exact ⟨i,aL.mp hi,n,aL.mp hn,hl,ak.mp h⟩
 ·cases h
theorem Nt (W:uJ sz dt lt) (hi:i<sz 3) (hn:n<4):kk dt i n<7:=by
 have:=W.five;have:=W.dots n hn
 unfold kk;split<;>(first|exact (mK (.i (.b xB xC) (.i (.l xC xN) (.i (.b xA xO) (.b (.a xA xB) (.c 7))))) [_,_,_]) hi (by assumption) this|exact mK (.b xJ (.c 7)) [])
theorem Qr (W:uJ sz dt lt) (hn:n<4) (hm:m<4) (e:lt n=lt m):n=m:=W.keys n hn m hm (by rw [e])
theorem KO (W:uJ sz dt lt) (hn:n<4):(qF sz dt lt pl).filter (λq=>[q.1.getLast?.getD 0]==[lt n])=(ag (sz n)).map λh=>(nj (kk dt h n) (lt n),pC (128+pl n h)):=by
 have e: ∀h,((ag 4).flatMap (qY sz dt lt pl h)).filter (λq=>[q.1.getLast?.getD 0]==[lt n])=qY sz dt lt pl h n:=by
  intro h
  rw [lO]
  have:(ag 4).flatMap (λm=>(qY sz dt lt pl h m).filter (λq=>[q.1.getLast?.getD 0]==[lt n]))=(ag 4).flatMap (λm=>if m=n then qY sz dt lt pl h n else []):=by
   rw [cn,cn]
   congr 1
   refine aV λm hm=> ?_
   have hm:=aL.mp hm
   by_cases hmn:m=n
   ·subst hmn
    rw [if_pos rfl]
    refine bW.mpr λq hq=> ?_
    unfold qY at hq
    split at hq
    ·rw [ak.mp hq];simp [nj]
    ·cases hq
   ·rw [if_neg hmn]
    refine List.filter_eq_nil_iff.mpr λq hq=> ?_
    unfold qY at hq
    split at hq
    ·rw [ak.mp hq]
     have:lt m≠lt n:=λe=>hmn (Qr W hm hn e)
     simpa [nj] using this
    ·cases hq
  rw [this,J2 _ n hn]
 rw [zP,lO]
 have e2:(ag (sz 3)).flatMap (λh=>((ag 4).flatMap (qY sz dt lt pl h)).filter (λq=>[q.1.getLast?.getD 0]==[lt n]))=(ag (sz 3)).flatMap λh=>if h<sz n then [(nj (kk dt h n) (lt n),pC (128+pl n h))] else []:=by
  rw [cn,cn]
  congr 1
  exact aV λh z=>e h
 rw [e2,HF,fX (W.some n hn).2]
def zz (sz dt lt:Nat->Nat) (pl:Nat->Nat->Nat) (n:Nat):List (List Nat):=((qF sz dt lt pl).filter λq=>q.1==nj (dt n) (lt n)).map (·.2)
theorem Hz (W:uJ sz dt lt) (hn:n<4):(qF sz dt lt pl).filter (λq=>oS q.1==oS (nj (dt n) (yS (lt n))))=(qF sz dt lt pl).filter λq=>q.1==nj (dt n) (lt n):=by
 refine List.filter_congr λq hq=> ?_
 refine yR (wo W hq) λi hi m hm hl Ub=> ?_;obtain rfl:=Ub
 have f:=rt (kk dt i m) (Nt W hi hm) (lt m) (W.lets m hm)
 have f':=rt (dt n) (by have:=W.dots n hn;exact (mK (.i (.b xA xO) (.b xA (.c 7))) [_]) this) (lt n) (W.lets n hn)
 show (oS (nj (kk dt i m) (lt m))==oS (nj (dt n) (yS (lt n))))=(nj (kk dt i m) (lt m)==nj (dt n) (lt n))
 rw [f.1,f'.2.1]
 rw [dE,beq_iff_eq,beq_iff_eq]
 constructor
 ·intro e
  obtain ⟨e1,e2⟩:=yU e
  have:=W.keys m hm n hn e2
  subst this;rw [e1]
 ·intro e
  obtain ⟨e1,e2⟩:=yU e
  rw [e1,e2]
theorem JB (W:uJ sz dt lt) (hn:n<4): ∃o r,zz sz dt lt pl n=o::r:=by
 have hs:=W.some n hn
 have h3:0<sz 3:=by exact (mK (.i (.l xI xB) (.i (.l xB xA) (.b xJ xA))) [_,_]) hs.1 hs.2
 have hm:(nj (dt n) (lt n),pC (128+pl n 0))∈(qF sz dt lt pl).filter λq=>q.1==nj (dt n) (lt n):=by
  refine eX.mpr ⟨?_,by simp⟩
  rw [zP]
  refine cU.mpr ⟨0,aL.mpr h3,cU.mpr ⟨n,aL.mpr hn,?_⟩⟩
  unfold qY
  rw [if_pos (by exact (mK (.i (.l xI xA) (.b xJ xA)) [_]) hs.1)]
  have:(if dt n=0 then 0 else dt n+0)=dt n:=by split<;>(first|exact (mK (.i (.e xA xJ) (.e xJ xA)) [_]) (by assumption)|exact mK (.e (.a xA xJ) xA) [_])
  rw [this];exact .head _
 unfold zz
 cases h:(qF sz dt lt pl).filter λq=>q.1==nj (dt n) (lt n) with
 |nil=>rw [h] at hm;cases hm
 |cons q r=>exact ⟨_,_,rfl⟩
theorem OA (W:uJ sz dt lt) (hn:n<4) (e:zz sz dt lt pl n=o::r):xa (qF sz dt lt pl) (nj (dt n) (yS (lt n)))= .str (S o):=by
 unfold xa
 rw [CX,Hz W hn]
 unfold zz at e
 cases h:(qF sz dt lt pl).filter λq=>q.1==nj (dt n) (lt n) with
 |nil=>rw [h] at e;cases e
 |cons q t=>rw [h] at e;cases e;rfl
theorem N4:(t.map λx=>pC (128+x)).flatten=toks (mY t):=by
 unfold toks mY
 rw [cn,aB];rfl
theorem QJ (hc:c∈sX):vC (nj k c):=λd hd=>by
 rcases ar.mp hd with h|h
 ·rw [(dW.mp h).2];decide
 ·rw [ak.mp h]
  exact (by decide: ∀c∈sX,c<256) c hc
theorem Pe (hc:c<256):vC (pC c):=(by decide+kernel: ∀c<256,∀d∈pC c,d<256) c hc
theorem E1 (W:uJ sz dt lt) (hp: ∀n<4,∀h<sz n,pl n h<128): ∀q∈qF sz dt lt pl,vC q.1/\vC q.2:=λq hq=>by
 refine yR (wo W hq) λi hi m hm hl Ub=> ?_;obtain rfl:=Ub
 exact ⟨QJ (W.lets m hm),Pe (by have:=hp m hm i hl;exact (mK (.i (.b xA xR) (.b (.a xR xA) (.c 256))) [_]) this)⟩
theorem OG (W:uJ sz dt lt): ∀q∈qF sz dt lt pl,yZ q.1:=λq hq=>by
 refine yR (wo W hq) λi hi m hm hl Ub=> ?_;obtain rfl:=Ub
 exact zT (Nt W hi hm) (W.lets m hm)
theorem EH (W:uJ sz dt lt):(qF sz dt lt pl).length<=20:=by
 have:=wF sz dt lt pl (sz 3) 0 (by decide)
 have:=W.five
 show (sZ sz dt lt pl (sz 3) 0).length<=20;exact (mK (.i (.l xA (.a (.m 4 xB) xJ)) (.i (.l xB xN) (.l xA (.c 20)))) [_,_]) (by assumption) this
end
def wa:List eh:=EU (nB nI 17)
section
variable {w:au} {A:aX} {g g':aW} {L D:aF} {is:List aF} {σ:m7} {Λ:List (aF×List PV)} {b:List eh} {J:gV->aW->Prop}
theorem R7 (G:Gd w 5 (cH A g L D is g')) {dt lt:Nat->Nat} (hn:n<4) (VU:dt n<3) (x0:σ.lookup ("n":Str)=aa (.int ((0:Int)+n))) (x2:σ.lookup ("dots":Str)=aa (.list ((ag 4).map λn=>.int (dt n:Nat)))) (x3:σ.lookup ("letters":Str)=aa (.list ((ag 4).map λn=>.str (S [lt n]))))
  (hb:mZ mJ w (cH A g L D is g').env (cH A g L D is g').A (In (cH A g L D is g') (("name",.str (S (nj (dt n) (lt n))))::σ) Λ) b J):mZ mJ w (cH A g L D is g').env (cH A g L D is g').A (In (cH A g L D is g') σ Λ) (nB wa 0::b) J:=by
 have hz:=aw
 have e0:((0:Int)+n).toNat=n:=by exact mK (.e (.t (.a xJ (.k xA))) xA) [_]
 refine mS (p:=.str (S (nj (dt n) (lt n)))) (mW (mQ (p:=.str (S (aH (dt n) [46]).flatten)) (q:=.str (S [lt n])) (mQ (p:=.str (S [46])) (q:=.int (dt n:Nat)) (nh (by kernel_rfl)) (nA (p:=.list ((ag 4).map λn=>.int (dt n:Nat))) (q:=.int ((0:Int)+n)) (nF x2) (nF x0) (ni (by exact mK (.L xJ (.a xJ (.k xA))) [_]) (by rw [e0];exact oZ hn) (by exact (mK (.i (.b xA xK) (.B (.a xJ (.k xA)) xS)) [_]) hn))) (yq (by decide) (by exact (mK (.i (.b xA xO) (.l xA xQ)) [_]) VU)))
   (nA (p:=.list ((ag 4).map λn=>.str (S [lt n]))) (q:=.int ((0:Int)+n)) (nF x3) (nF x0) (ni (by exact mK (.L xJ (.a xJ (.k xA))) [_]) (by rw [e0];exact oZ hn) (by exact (mK (.i (.b xA xK) (.B (.a xJ (.k xA)) xS)) [_]) hn))) (oG ?a5)) ?a6) hb (.inr ⟨L+9,oi.loop (Ci (by rfl) (by rfl))⟩)
 case a5=>rw [zW,a8];exact (mK (.i (.b xA xO) (.i (.e xB xL) (.l (.a xA xI) xB))) [_,_]) VU hz
 case a6=>rw [zW];rfl
set_option maxHeartbeats 1000000 in
theorem RM (G:Gd w 5 (cH A g L D is g')) {Q:HP} (hl:Q.length<=100) (x0:σ.lookup ("name":Str)=aa (.str (S nm))) (x1:σ.lookup ("due":Str)=aa (.list (hp Q)))
  (hb:mZ mJ w (cH A g L D is g').env (cH A g L D is g').A (In (cH A g L D is g') (("own",.list (((Q.filter λq=>q.1==nm).map (·.2)).map λx=>.str (S x)))::σ) Λ) b J):mZ mJ w (cH A g L D is g').env (cH A g L D is g').A (In (cH A g L D is g') σ Λ) (nB wa 1::b) J:=by
 have hz:=aw
 refine v7 (l:=Q) (V:=λq=>.tup [.str (S q.1),.str (S q.2)]) (bs:=λq=>[("text",.str (S q.2)),("one",.str (S q.1))]) (cl:=[("name",L+9)]) [("name",.str (S nm))] (λq=>q.1==nm) (λq=>.str (S q.2)) ?h1 ?h2 ?h3 ?h4 ?h5 ?ho ?h6 ?h7 ?h8 ?h9 ?h10 ?h11 ?h12
 case h1=>
  refine qJ (nF x1) G.room.1 (.inr ⟨⟨_,_,_,rfl⟩,λp hp=> ?_⟩) (λz h=>nomatch h)
  obtain ⟨q,_,rfl⟩:=aK.mp hp
  exact ⟨_,rfl⟩
 case h2=>exact oa nR x0 (.inl rfl) (λz=>rfl) (λz=>.inl rfl)
 case h3=>exact λq C g' Ug z=>re G.room.1
 case h4=>
  intro q C g' Ug _ _ _
  refine yQ (m8 (p:=.str (S q.1)) (q:=.str (S nm)) ?_ ?_ tm)
  ·walk_at "ev"
  ·walk_at "ev"
 case h5=>
  intro q C g' Ug _ _ _ _ _
  walk_at "ev"
 case ho=>exact λh i=>G.offX i
 case h6=>exact (mK (.i (.l xA xP) (.i (.e xB xL) (.l xA xB))) [_,_]) hl hz
 case h7=>exact λz z=>by kernel_rfl
 case h8=>rfl
 case h9=>exact ⟨by rfl,trivial⟩
 case h10=>rfl
 case h11=>decide+kernel
 case h12=>
  have e:((Q.filter λq=>q.1==nm).map λq=>PV.str (S q.2))=((Q.filter λq=>q.1==nm).map (·.2)).map λx=>PV.str (S x):=by rw [aB];rfl
  exact e▸hb
set_option maxHeartbeats 1000000 in
theorem RS (G:Gd w 5 (cH A g L D is g')) {Q:HP} (hl:Q.length<=100) (XM:Txt.swapcase (S nm)=S nm') (VX:gy (Txt.swapcase (S nm)).length=false) (XV:yZ nm') (hQ: ∀q∈Q,yZ q.1) (how:ow=o::r) (h9: ∀x∈ow,vC x) (Xx:ow.length<=100)
  (Wk:xa Q nm'= .str (S o)) (XC:(Q.filter λq=>oS q.1==oS nm').map (·.2)=ow) (hΛ:(D,hp Q)∈Λ) (x0:σ.lookup ("name":Str)=aa (.str (S nm))) (x1:σ.lookup ("own":Str)=aa (.list (ow.map λx=>.str (S x)))) (x2:σ.lookup ("struck":Str)=aa (.inst D))
  (hb:mZ mJ w (cH A g L D is g').env (cH A g L D is g').A (In (cH A g L D is g') σ Λ) b J):mZ mJ w (cH A g L D is g').env (cH A g L D is g').A (In (cH A g L D is g') σ Λ) (nB wa 2::b) J:=by
 have hz:=aw
 have hu:(cH A g L D is g').A.units+64<fw:=by have:=G.room.2.2;exact (mK (.i (.b (.a (.a xA (.m 10 xN)) xP) xB) (.b (.a xA (.c 64)) xB)) [_,_]) this
 refine nk (d:=false) (m8 (p:=.list ((o::ow).map λx=>.str (S x))) (q:=.list ((o::ow).map λx=>.str (S x))) ?l ?r (Hh hu ?h9)) (λh=>by exact oW h) (λy=>hb)
 case h9=>
  intro x hx
  rcases ao.mp hx with rfl|hx
  ·exact h9 _ (by exact how▸(.head _))
  ·exact h9 x hx
 case l=>
  refine mQ (p:=.list [.str (S o)]) (q:=.list (ow.map λx=>.str (S x))) (qo (mM (mW (B7 (Gd.sub (m:=2) G (by decide)) (l:=Q) (sM (nF x2) hΛ) (EP (nm:=nm') (by exact (mK (.i (.l xA xP) (.l xA xQ)) [_]) hl) XV hQ) (by kernel_rfl) (Jn _).e (by kernel_rfl) (by kernel_rfl)
   (mM (rf (p:=.str (S nm)) (T:="str") (nF x0) oy F.plainAttrs_str F.slot_str_swapcase F.type_str_swapcase (qB (wc VX) (by rw [XM]))) mP) x9) Wk) mP) (by exact (mK (.i (.e xA xL) (.l xI xA)) [_]) hz))
   (mW (B7 (Gd.sub (m:=2) G (by decide)) (l:=Q) (sM (nF x2) hΛ) (Gf (nm:=nm') (by exact (mK (.i (.l xA xP) (.l xA xQ)) [_]) hl) XV hQ) (by kernel_rfl) (Ni _).e (by kernel_rfl) (by kernel_rfl)
   (mM (rf (p:=.str (S nm)) (T:="str") (nF x0) oy F.plainAttrs_str F.slot_str_swapcase F.type_str_swapcase (qB (wc VX) (by rw [XM]))) mP) x9) ?e) (pV ?z)
  case e=>rw [<-XC,aB];rfl
  case z=>rw [ah];exact (mK (.i (.l xA xP) (.i (.e xB xL) (.l (.a xI xA) xB))) [_,_]) Xx hz
 case r=>
  have e:ri (ow.map λx=>PV.str (S x)) az (aa ((1:Nat):Int))=[.str (S o)]:=by rw [Kv,how];rfl
  refine mQ (p:=.list [.str (S o)]) (q:=.list (ow.map λx=>.str (S x))) (mW (tD (ps:=ow.map λx=>.str (S x)) (lo:=az) (hi:=aa ((1:Nat):Int)) (nF x1) rO (n8 mT) (by rw [ah];exact (mK (.i (.l xA xP) (.i (.e xB xL) (.l xA xB))) [_,_]) Xx hz)) (by rw [e])) (nF x1) (pV (by rw [ah];exact (mK (.i (.l xA xP) (.i (.e xB xL) (.l (.a xI xA) xB))) [_,_]) Xx hz))
theorem Sf (G:Gd w 5 (cH A g L D is g')) {n:Nat} (ht: ∀x∈t,x<128) (h5:t.length<=5) (x0:σ.lookup ("n":Str)=aa (.int ((0:Int)+n))) (x1:σ.lookup ("told":Str)=aa (.list tv)) (XO:tv[n]? =aa (.list (t.map λx:Nat=>PV.int x))) (hn:n<4)
  (hb:mZ mJ w (cH A g L D is g').env (cH A g L D is g').A (In (cH A g L D is g') (("octets",.str (S (mY t)))::σ) Λ) b J):mZ mJ w (cH A g L D is g').env (cH A g L D is g').A (In (cH A g L D is g') σ Λ) (nB wa 3::b) J:=by
 have hz:=aw
 have e0:((0:Int)+n).toNat=n:=by exact mK (.e (.t (.a xJ (.k xA))) xA) [_]
 refine mS (p:=.str (S (mY t))) (G9 (Gd.sub (m:=1) G (by decide)) ?b1 ht (by exact (mK (.i (.l xA xN) (.l xA xP)) [_]) h5) ?b2 ?b3 ?b4 ?b5 ?b6 ?b7 ?b8 ?b9 ?b10 ?b11 ?b12 ?b13 ?b14) hb
 case b1=>exact nA (p:=.list tv) (q:=.int ((0:Int)+n)) (nF x1) (nF x0) (ni (by exact mK (.L xJ (.a xJ (.k xA))) [_]) (by rw [e0];exact XO) (by exact (mK (.i (.b xA xK) (.B (.a xJ (.k xA)) xS)) [_]) hn))
 case b2=>exact λh i=>G.offX i
 case b3=>rfl
 case b4=>rfl
 case b5=>decide+kernel
 case b6=>exact λz z z=>.inl (by rfl)
 case b7=>exact λz z z=>by rfl
 case b8=>exact λz z z=>by rfl
 case b9=>exact λz=>by rfl
 case b10=>rfl
 case b11=>exact λz z z=>by rfl
 case b12=>rfl
 case b13=>rfl
 case b14=>rfl
end
theorem JT: ∀ls:List (List Nat),jn [] ls=ls.flatten
 |[]=>rfl
 |[x]=>by simp [jn]
 |x::y::r=>by rw [jn,JT (y::r)];simp
def pF (t:List Nat):List Nat:=oB++toks (mY t)++[63,61]
theorem Bh (h5:t.length<=5):(pF t).length<=23:=by
 unfold pF
 rw [af,af,ty,mY,ah]
 exact (mK (.i (.l xA xN) (.l (.a (.a (.c 6) (.m 3 xA)) xM) (.c 23))) [_]) h5
section
variable {w:au} {A:aX} {g g':aW} {L D:aF} {is:List aF} {σ:m7} {Λ:List (aF×List PV)} {b:List eh} {J:gV->aW->Prop}
set_option maxHeartbeats 1000000 in
theorem R5 (G:Gd w 5 (cH A g L D is g')) {n:Nat} (ht: ∀x∈t,x<128) (h5:t.length<=5) (Uu:t≠[]) (x0:σ.lookup ("n":Str)=aa (.int ((0:Int)+n))) (x1:σ.lookup ("told":Str)=aa (.list tv)) (XO:tv[n]? =aa (.list (t.map λx:Nat=>PV.int x))) (hn:n<4)
  (hb:mZ mJ w (cH A g L D is g').env (cH A g L D is g').A (In (cH A g L D is g') (("coded",.str (S (pF t)))::σ) Λ) b J):mZ mJ w (cH A g L D is g').env (cH A g L D is g').A (In (cH A g L D is g') σ Λ) (nB wa 4::b) J:=by
 have hz:=aw
 have e0:((0:Int)+n).toNat=n:=by exact mK (.e (.t (.a xJ (.k xA))) xA) [_]
 have hob:=t6 ht
 refine mS (p:=.str (S (pF t))) (mW (oP (Gd.sub (m:=1) G (by decide)) (ps:=[.bytes ((mY t).map ia).toArray,.str (S [120])]) (by kernel_rfl) (IG _).e (mM (mW (oq G (ps:=[.list (((mY t).map λx:Nat=>(x:Int)).map .int)]) (by kernel_rfl) (by kernel_rfl) (mM ?c mP) (Kr ?r ?z G.room.1) (.inr ⟨_,rfl⟩)) ?e) (mM (nh (by kernel_rfl)) mP)) (Km ?h1 ?h2 (by decide))) ?h3) hb
 case r=>
  intro m hm
  refine mX (aK.mp hm) λc hc Ub=> ?_;obtain rfl:=Ub
  have:=hob c hc;exact (mK (.i (.b xA (.c 256)) (.a (.L xJ (.k xA)) (.B (.k xA) (.c 256)))) [_]) this.2
 case z=>rw [ah,mY,ah];exact (mK (.i (.l xA xN) (.l xA xQ)) [_]) h5
 case h1=>intro q;apply Uu;have:=congrArg bj q;rw [ah,mY,ah] at this;exact cC this
 case h2=>rw [ah,mY,ah];exact h5
 case h3=>rw [Pz ht Uu];rfl
 case e=>
  unfold byteArr
  rw [aB];rfl
 case c=>
  refine .mk λs i=>Ev.run (mW (pQ (l:=t) (V:=λx:Nat=>PV.int x) (bs:=λx=>[("x",.int (x:Nat))]) (cl:=[]) [] (λz=>ai) (λx:Nat=>.int ((128+x:Nat):Int))
    ?k1 nR (λz z z z z=>nZ) (λz z z z z z z=>ot) ?k5 ?k6 (λz z=>rfl) (by rfl) trivial (by rfl) (by decide+kernel)) ?k12) s i
  case k1=>exact qJ (nA (p:=.list tv) (q:=.int ((0:Int)+n)) (nF x1) (nF x0) (ni (by exact mK (.L xJ (.a xJ (.k xA))) [_]) (by rw [e0];exact XO) (by exact (mK (.i (.b xA xK) (.B (.a xJ (.k xA)) xS)) [_]) hn))) G.room.1 (.inl ⟨_,_,rfl⟩) (λz h=>nomatch h)
  case k5=>
   intro x C g2 Ug hx _ k hf
   refine mW (mQ (p:=.int 128) (q:=.int (x:Nat)) mT ?_ n6) (by congr 1)
   walk_at "ev"
  case k6=>exact (mK (.i (.l xA xN) (.i (.e xB xL) (.l xA xB))) [_,_]) h5 hz
  case k12=>rw [wq,mY,aB,aB];rfl
set_option maxHeartbeats 1000000 in
theorem RF (G:Gd w 5 (cH A g L D is g')) {Q:HP} {lt:Nat->Nat} {n:Nat} (h5:t.length<=5) (hl:Q.length<=100) (hne1: ∀q∈Q,q.1≠[]) (hv: ∀q∈Q,q.2.length<=3) (x0:σ.lookup ("n":Str)=aa (.int ((0:Int)+n))) (x1:σ.lookup ("coded":Str)=aa (.str (S (pF t)))) (x2:σ.lookup ("struck":Str)=aa (.inst D)) (x3:σ.lookup ("letters":Str)=aa (.list ((ag 4).map λn=>.str (S [lt n])))) (hn:n<4)
  (hΛ:(D,hp Q)∈Λ) (hj:((Q.filter λq=>[q.1.getLast?.getD 0]==[lt n]).map (·.2)).flatten=toks (mY t))
  (hb:mZ mJ w (cH A g L D is g').env (cH A g L D is g').A (In (cH A g L D is g') σ Λ) b J):mZ mJ w (cH A g L D is g').env (cH A g L D is g').A (In (cH A g L D is g') σ Λ) (nB wa 5::b) J:=by
 have hz:=aw
 have e0:((0:Int)+n).toNat=n:=by exact mK (.e (.t (.a xJ (.k xA))) xA) [_]
 have U7:=Bh h5
 have Wi:(toks (mY t)).length<=15:=by rw [ty,mY,ah];exact (mK (.i (.l xA xN) (.l (.m 3 xA) (.c 15))) [_]) h5
 refine nk (d:=false) (m8 (p:=.str (S (pF t))) (q:=.str (S (pF t))) (nF x1) ?r (by have:=ue (prog:=mJ) (w:=w) (A:=(cH A g L D is g').A) (X:=(cH A g L D is g').X) (a:=pF t) (b:=pF t);rw [show (pF t !=pF t)=false by simp] at this;exact this)) (λh=>by exact oW h) (λz=>hb)
 case r=>
  refine mQ (p:=.str (S (oB++toks (mY t)))) (q:=.str (S [63,61])) (mQ (p:=.str (S oB)) (q:=.str (S (toks (mY t)))) (nh (by kernel_rfl)) ?j (oG ?z1)) (nh (by kernel_rfl)) (oG ?z2)
  case z1=>exact (mK (.i (.e xB xL) (.i (.l xA (.c 15)) (.l (.a (.c 6) xA) xB))) [_,_]) hz Wi
  case z2=>rw [af];exact (mK (.i (.e xB xL) (.i (.l xA (.c 15)) (.l (.a (.a (.c 6) xA) xM) xB))) [_,_]) hz Wi
  case j=>
   refine ro (p:=.str (S [])) (T:="str") (nh (by kernel_rfl)) oy F.plainAttrs_str F.slot_str_join F.type_str_join (mM (p:=.list ((((Q.filter λq=>[q.1.getLast?.getD 0]==[lt n]).map (·.2)).map S).map PV.str)) ?c mP) (qB (vZ (ud ?hj)) ?e)
   case e=>
    rw [QV (xV [] _),JT,hj]
   case hj=>
    rw [hj];exact (mK (.i (.l xA (.c 15)) (.l (.a xA (.r xB 0)) (.c 1000000))) [_,_]) Wi
   case c=>
    refine .mk λs i=>Ev.run (mW (pQ (c:=cH A g L D is g') (l:=Q) (V:=λq=>.tup [.str (S q.1),.str (S q.2)]) (bs:=λq=>[("text",.str (S q.2)),("one",.str (S q.1))]) (cl:=[("n",L+4),("letters",L+7)]) [("n",.int ((0:Int)+n)),("letters",.list ((ag 4).map λn=>.str (S [lt n])))] (λq=>[q.1.getLast?.getD 0]==[lt n]) (λq=>.str (S q.2))
     ?k1 ?k2 (λz z z z z=>re G.room.1) ?k4 ?k5 ?k6 (λz z=>by kernel_rfl) (by rfl) ⟨by rfl,by rfl,trivial⟩ (by rfl) (by decide+kernel)) ?k12) s i
    case k1=>
     refine qJ (xk (Gd.sub (m:=1) G (by decide)) (l:=Q) (sM (nF x2) hΛ) (yn (by exact (mK (.i (.l xA xP) (.l xA xQ)) [_]) hl)) (by kernel_rfl) (DV _).e (by kernel_rfl) (by kernel_rfl)) G.room.1 (.inr ⟨⟨_,_,_,rfl⟩,λp hp=> ?_⟩) (λz h=>nomatch h)
     obtain ⟨q,_,rfl⟩:=aK.mp hp
     exact ⟨_,rfl⟩
    case k2=>exact oa (oa nR x3 (.inl rfl) (λz=>rfl) (λz=>.inl rfl)) x0 (.inl rfl) (λz=>rfl) (λz=>.inl rfl)
    case k4=>
     intro q C g2 Ug hq _ _
     obtain ⟨y,hy⟩: ∃y,q.1.getLast? =aa y:=⟨_,c7 (hne1 q hq)⟩
     rw [hy]
     refine yQ (m8 (p:=.str (S [y])) (q:=.str (S [lt n])) (nA (p:=.str (S q.1)) (q:=.int (-1)) ?_ (r7 mT oU) (tM hy)) (nA (p:=.list ((ag 4).map λn=>.str (S [lt n]))) (q:=.int ((0:Int)+n)) ?_ ?_ (ni (by exact mK (.L xJ (.a xJ (.k xA))) [_]) (by rw [e0];exact oZ hn) (by exact (mK (.i (.b xA xK) (.B (.a xJ (.k xA)) xS)) [_]) hn))) tm)
     ·walk_at "ev"
     ·walk_at "ev"
     ·walk_at "ev"
    case k5=>
     intro q C g2 Ug _ _ _ _
     walk_at "ev"
    case k6=>exact (mK (.i (.l xA xP) (.i (.e xB xL) (.l xA xB))) [_,_]) hl hz
    case k12=>rw [aB,aB];rfl
end
theorem I4 (h:n<=1000):gy n=false:=by
 have hz:=aw
 have:n<=bo:=by exact (mK (.i (.l xA xQ) (.i (.e xB xL) (.l xA xB))) [_,_]) h hz
 simpa [gy] using this
theorem BM (t:List Nat):(pF t).dropLast=oB++toks (mY t)++[63]:=by
 unfold pF
 rw [show ([63,61]:List Nat)=[63]++[61] from rfl,<-aJ,lq]
theorem IB (ti:List Nat) (y:Nat):pF (ti++[y])=(oB++toks (mY ti))++[61,pA ((128+y)/16)]++[pA ((128+y) % 16),63,61]:=by
 unfold pF toks mY
 rw [bi,bV]
 show oB++(_++([61,pA ((128+y)/16),pA ((128+y) % 16)]++[]))++[63,61]=_
 simp
theorem O1 (a b c:List α) (hb:1<=b.length) (hc:1<=c.length):ri (a++b++c) az (aa (-(c.length:Int)))=a++b/\ri (a++b++c) (aa (-((b.length+c.length:Nat):Int))) (aa (-(c.length:Int)))=b:=by
 constructor
 ·rw [BG _ _ hc,af,jb,gm]
 ·unfold ri
  show (List.drop (dQ _ _) _).take (dQ _ _ - dQ _ _)=_
  rw [AG _ (b.length+c.length) (by exact (mK (.i (.l xI xB) (.l xI (.a xA xB))) [_,_]) hc),AG _ c.length hc]
  have h1:(a++b++c).length - (b.length+c.length)=a.length:=by rw [af,af];exact mK (.e (.s (.a (.a xA xB) xC) (.a xB xC)) xA) [_,_,_]
  have h2:(a++b++c).length - c.length - a.length=b.length:=by rw [af,af];exact mK (.e (.s (.s (.a (.a xA xB) xC) xC) xA) xB) [_,_,_]
  rw [h1,h2,aJ,List.drop_left,gm]
section
variable {w:au} {A:aX} {g g':aW} {L D:aF} {is:List aF} {σ:m7} {Λ:List (aF×List PV)} {b:List eh} {J:gV->aW->Prop}
theorem Hp:og mJ w A X (bP .NotEq) (.str (S a)) (.str (S a)) (.bool false):=by
 have:=ue (prog:=mJ) (w:=w) (A:=A) (X:=X) (a:=a) (b:=a)
 rw [show (a !=a)=false by simp] at this;exact this
set_option maxHeartbeats 2000000 in
theorem RK (G:Gd w 5 (cH A g L D is g')) (ht: ∀x∈t,x<128) (h5:t.length<=5) (Uu:t≠[]) (hm:tn mark) (x0:σ.lookup ("octets":Str)=aa (.str (S (mY t)))) (x1:σ.lookup ("coded":Str)=aa (.str (S (pF t)))) (x2:σ.lookup ("mark":Str)=aa (.str (S mark)))
  (hb:mZ mJ w (cH A g L D is g').env (cH A g L D is g').A (In (cH A g L D is g') σ Λ) b J):mZ mJ w (cH A g L D is g').env (cH A g L D is g').A (In (cH A g L D is g') σ Λ) (nB wa 6::b) J:=by
 have hz:=aw
 have U7:=Bh h5
 refine nw (t7 hm) λz z z z z m2=> ?_
 have hob:=t6 ht
 have Wf:(mY t).length<=5:=by rw [mY,ah];exact h5
 refine nk (d:=(false||(false||false))) (BN (CS (m8 (p:=.str (S (oB++mY t++[63]))) (q:=.str (S (oB++mY t++[63]))) ?l1 ?r1 Hp) (λz=>CS ?two (λz=>MK)))) (λh=>by exact oW h) (λz=>hb)
 case r1=>
  refine mQ (p:=.str (S (oB++mY t))) (q:=.str (S [63])) (mQ (p:=.str (S oB)) (q:=.str (S (mY t))) (nh (by kernel_rfl)) (nF x0) (oG ?z1)) (nh (by kernel_rfl)) (oG ?z2)
  case z1=>exact (mK (.i (.e xB xL) (.i (.l xA xN) (.l (.a (.c 6) xA) xB))) [_,_]) hz Wf
  case z2=>rw [af];exact (mK (.i (.e xB xL) (.i (.l xA xN) (.l (.a (.a (.c 6) xA) xI) xB))) [_,_]) hz Wf
 case l1=>
  have V2: ∀c∈oB++toks (mY t)++[63],c∈rj:=by
   intro c hc
   rcases ar.mp hc with hc|hc
   ·rcases ar.mp hc with hc|hc
    ·exact (by decide: ∀c∈oB,c∈rj) c hc
    ·exact zi hob c hc
   ·exact (by decide: ∀c∈[63],c∈rj) c hc
  have Uo:(oB++toks (mY t)++[63]).length<=23:=by rw [<-BM,fT];exact (mK (.i (.l xA (.c 23)) (.l (.s xA xI) (.c 23))) [_]) U7
  have hlow:=KN V2
  refine mW (oP (Gd.sub (m:=2) G (by decide)) (ps:=[.str (S ((oB++toks (mY t)++[63]).map lw++[32,9])),.str (S mark)]) (by kernel_rfl) (Cq _).e (mM (mQ (p:=.str (S ((oB++toks (mY t)++[63]).map lw))) (q:=.str (S [32,9]))
   (rf (p:=.str (S (oB++toks (mY t)++[63]))) (T:="str") (mW (tX (l:=pF t) (lo:=az) (hi:=aa (-1)) (nF x1) rO (n8 (r7 mT oU)) ?s1) ?s2) oy F.plainAttrs_str F.slot_str_lower F.type_str_lower (qB (vk ?s3) ?s4)) (nh (by kernel_rfl)) (oG ?s5)) (mM (nF x2) mP)) (w9 ?s6 ?s7 m2)) (by rw [Oc hob hm])
  case s1=>exact (mK (.i (.e xB xL) (.i (.l xA (.c 23)) (.l xA xB))) [_,_]) hz U7
  case s2=>rw [Ay,BM]
  case s3=>rw [hlow,m6,ah];exact I4 (by exact (mK (.i (.l xA (.c 23)) (.l xA xQ)) [_]) Uo)
  case s4=>rw [hlow]
  case s5=>rw [ah];exact (mK (.i (.e xB xL) (.i (.l xA (.c 23)) (.l (.a xA xM) xB))) [_,_]) hz Uo
  case s6=>simp
  case s7=>rw [af,ah];exact (mK (.i (.l xA (.c 23)) (.l (.a xA xM) xQ)) [_]) Uo
 case two=>
  obtain ⟨ti,y,rfl⟩: ∃ti y,t=ti++[y]:=⟨t.dropLast,t.getLast Uu,(jK Uu).symm⟩
  have hti: ∀x∈ti,x<128:=λx hx=>ht x (ax _ hx)
  have hy:y<128:=ht y (aM _ (.head _))
  have hoi:=t6 hti
  have hcs:=IB ti y
  have W7:=O1 (oB++toks (mY ti)) [61,pA ((128+y)/16)] [pA ((128+y) % 16),63,61] (by simp) (by simp)
  rw [<-hcs] at W7
  have hoc:mY (ti++[y])=mY ti++[128+y]:=by unfold mY;rw [bi];rfl
  have hhx:=(Aw (128+y) (by exact (mK (.i (.b xA xR) (.b (.a xR xA) (.c 256))) [_]) hy)).1
  have hil:(mY ti).length<=5:=by rw [hoc,af] at Wf;exact (mK (.i (.l (.a xA xB) xN) (.l xA xN)) [_,_]) Wf
  have XB:(toks (mY ti)).length<=15:=by rw [ty];exact (mK (.i (.l xA xN) (.l (.m 3 xA) (.c 15))) [_]) hil
  have c3:ri (pF (ti++[y])) az (aa (-3))=oB++toks (mY ti)++[61,pA ((128+y)/16)]:=W7.1
  have c5:ri (pF (ti++[y])) (aa (-5)) (aa (-3))=[61,pA ((128+y)/16)]:=W7.2
  refine m8 (p:=.str (S (oB++mY ti++[61,pA ((128+y)/16)]))) (q:=.str (S (oB++mY ti++[61,pA ((128+y)/16)]))) ?l ?r Hp
  case l=>
   refine mW (oP (Gd.sub (m:=2) G (by decide)) (ps:=[.str (S (oB++toks (mY ti)++[61,pA ((128+y)/16)])),.str (S mark)]) (by kernel_rfl) (Cq _).e (mM (mW (tX (l:=pF (ti++[y])) (lo:=az) (hi:=aa (-3)) (nF x1) rO (n8 (r7 mT oU)) ?s1) (by rw [c3])) (mM (nF x2) mP)) (w9 ?s6 ?s7 m2)) (by rw [Ov hoi hhx hm])
   case s1=>exact (mK (.i (.e xB xL) (.i (.l xA (.c 23)) (.l xA xB))) [_,_]) hz U7
   case s6=>simp
   case s7=>rw [af,af];exact (mK (.i (.l xA (.c 15)) (.l (.a (.a (.c 6) xA) xM) xQ)) [_]) XB
  case r=>
   refine mQ (p:=.str (S (oB++mY ti))) (q:=.str (S [61,pA ((128+y)/16)])) (mQ (p:=.str (S oB)) (q:=.str (S (mY ti))) (nh (by kernel_rfl)) (mW (tX (l:=mY (ti++[y])) (lo:=az) (hi:=aa (-1)) (nF x0) rO (n8 (r7 mT oU)) ?s1) ?s2) (oG ?z1)) (mW (tX (l:=pF (ti++[y])) (lo:=aa (-5)) (hi:=aa (-3)) (nF x1) (n8 (r7 mT oU)) (n8 (r7 mT oU)) ?s3) (by rw [c5])) (oG ?z2)
   case s1=>exact (mK (.i (.e xB xL) (.i (.l xA xN) (.l xA xB))) [_,_]) hz Wf
   case s2=>rw [Ay,hoc,lq]
   case s3=>exact (mK (.i (.e xB xL) (.i (.l xA (.c 23)) (.l xA xB))) [_,_]) hz U7
   case z1=>exact (mK (.i (.e xB xL) (.i (.l xA xN) (.l (.a (.c 6) xA) xB))) [_,_]) hz hil
   case z2=>rw [af];exact (mK (.i (.e xB xL) (.i (.l xA xN) (.l (.a (.a (.c 6) xA) xM) xB))) [_,_]) hz hil
end
noncomputable def LE:List Str:=["n","name","own","octets","coded"]
noncomputable def yI (sz:Nat->Nat) (pl:Nat->Nat->Nat) (n:Nat):List Nat:=(ag (sz n)).map (pl n)
section
variable {w:au} {A:aX} {g g':aW} {L D:aF} {is:List aF} {σ:m7} {Λ:List (aF×List PV)} {b:List eh} {J:gV->aW->Prop}
set_option maxHeartbeats 1000000 in
theorem Kc (G:Gd w 5 (cV A g L D)) {pl:Nat->Nat->Nat} (W:uJ sz dt lt) (We: ∀n<4,∀h<sz n,pl n h<128) (Wi: ∀n<4,sI rs n=(yI sz pl n).map λx:Nat=>(x:Int)) (hm:tn mark) (hκ:Ap κ LE)
  (x1:κ.lookup ("told":Str)=aa (vI rs)) (x2:κ.lookup ("due":Str)=aa (.list (hp (qF sz dt lt pl)))) (x3:κ.lookup ("letters":Str)=aa (.list ((ag 4).map λn=>.str (S [lt n])))) (x4:κ.lookup ("dots":Str)=aa (.list ((ag 4).map λn=>.int (dt n:Nat)))) (x5:κ.lookup ("mark":Str)=aa (.str (S mark))) (x6:κ.lookup ("struck":Str)=aa (.inst D))
  (hb:mZ mJ w (cV A g L D).env (cV A g L D).A (In (cV A g L D) κ [(D,hp (qF sz dt lt pl))]) b J):
  mZ mJ w (cV A g L D).env (cV A g L D).A (In (cV A g L D) κ [(D,hp (qF sz dt lt pl))]) (nB nI 17::b) J:=by
 have hz:=aw
 refine rQ G (l:=ag 4) (V:=λi:Nat=>.int ((0:Int)+i)) (bs:=λi=>[("n",.int ((0:Int)+i))]) (λz=>κ) (λz=>[(D,hp (qF sz dt lt pl))]) ?h1 rfl rfl (λa is z=>nZ (.inr ⟨L+4,oi.addX (Ci (by rfl) (by rfl))⟩)) ?h2 ?h3
 case h1=>exact pX G.zero (n:=4) mT (by exact mK (.l xK xQ) [] []) (by rfl)
 case h2=>
  intro i n g2 Vd hx G2
  refine eA (AX hx) λUb hn=> ?_;obtain rfl:=Ub
  have Uo:=EH (pl:=pl) W
  have hlets:=W.lets n hn
  have VU:=W.dots n hn
  have f:=rt (dt n) (by exact (mK (.i (.b xA xO) (.b xA (.c 7))) [_]) VU) (lt n) hlets
  have hlo:=E1 W We
  have hs:=W.some n hn
  have h5:(yI sz pl n).length<=5:=by unfold yI;rw [ah,be];have:=W.five;exact (mK (.i (.l xA xB) (.i (.l xB xN) (.l xA xN))) [_,_]) hs.2 this
  have Uu:yI sz pl n≠[]:=by
   intro q
   have:=congrArg bj q
   unfold yI at this
   rw [ah,be] at this
   have e:([]:List Nat).length=0:=rfl
   exact (mK (.i (.l xI xA) (.i (.e xA xB) (.n (.e xB xJ)))) [_,_]) hs.1 this e
  have ht: ∀x∈yI sz pl n,x<128:=λx hx=>by
   obtain ⟨h,hh,rfl⟩:=aK.mp hx
   exact We n hn h (aL.mp hh)
  refine rU (JB (pl:=pl) W hn) λo r how=> ?_
  have Wf:(zz sz dt lt pl n).length<=100:=by
   unfold zz
   rw [ah]
   have:=la (λq:List Nat×List Nat=>q.1==nj (dt n) (lt n)) (qF sz dt lt pl)
   exact (mK (.i (.l xB (.c 20)) (.i (.l xA xB) (.l xA xP))) [_,_]) Uo this
  have ho9: ∀x∈zz sz dt lt pl n,vC x:=λx hx=>by
   obtain ⟨q,hq,rfl⟩:=aK.mp hx
   exact (hlo q (eX.mp hq).1).2
  have XO:((ag 4).map λn=>il (sI rs n))[n]? =aa (.list ((yI sz pl n).map λx:Nat=>PV.int x)):=by
   rw [oZ hn,Wi n hn]
   show aa (PV.list (eV PV.int (eV _ _)))=_
   rw [aB];rfl
  refine R7 G2 hn VU (by walk_at "lk") (by walk_at "lk") (by walk_at "lk") ?_
  refine RM G2 (Q:=qF sz dt lt pl) (by exact (mK (.i (.l xA (.c 20)) (.l xA xP)) [_]) Uo) (by walk_at "lk") (by walk_at "lk") ?_
  refine RS G2 (Q:=qF sz dt lt pl) (nm:=nj (dt n) (lt n)) (nm':=nj (dt n) (yS (lt n))) (ow:=zz sz dt lt pl n) (o:=o) (r:=r) (by exact (mK (.i (.l xA (.c 20)) (.l xA xP)) [_]) Uo) f.2.2.1 f.2.2.2.2.1 (zT (by exact (mK (.i (.b xA xO) (.b xA (.c 7))) [_]) VU) f.2.2.2.2.2.1) (OG W) how ho9 Wf (OA W hn how) (by rw [Hz W hn];rfl) (.head _) (by walk_at "lk") (by walk_at "lk") (by walk_at "lk") ?_
  refine Sf G2 ht h5 (by walk_at "lk") (tv:=(ag 4).map λn=>il (sI rs n)) (by walk_at "lk") XO hn ?_
  refine R5 G2 ht h5 Uu (by walk_at "lk") (tv:=(ag 4).map λn=>il (sI rs n)) (by walk_at "lk") XO hn ?_
  refine RF G2 (t:=yI sz pl n) (Q:=qF sz dt lt pl) (lt:=lt) h5 (by exact (mK (.i (.l xA (.c 20)) (.l xA xP)) [_]) Uo) ?n1 ?n2 (by walk_at "lk") (by walk_at "lk") (by walk_at "lk") (by walk_at "lk") hn (.head _) ?n3 ?_
  case n1=>
   intro q hq
   refine yR (wo W hq) λi hi m hm hl Ub=> ?_;obtain rfl:=Ub
   unfold nj;simp
  case n2=>
   intro q hq
   refine yR (wo W hq) λi hi m hm hl Ub=> ?_;obtain rfl:=Ub
   exact aN _
  case n3=>
   rw [KO W hn,aB,<-N4]
   congr 1
   unfold yI
   rw [aB];rfl
  refine RK G2 ht h5 Uu hm (by walk_at "lk") (by walk_at "lk") (by walk_at "lk") ?_
  exact qT (by walk_at "has")
 case h3=>exact hb
end
section
variable {w:au} {A:aX} {g g':aW} {L D:aF} {is:List aF} {σ:m7} {Λ:List (aF×List PV)} {b:List eh} {J:gV->aW->Prop}
theorem Te:bJ (.BoolOp .And [x,y,z] pos) env=bJ (.BoolOp .And [x,.BoolOp .And [y,z] pos] pos) env:=rfl
theorem Py (hx:Ev mJ w φ x p) (t:tY mJ w φ.A φ.X p ai) (hy:Ev mJ w φ y q) (u:tY mJ w φ.A φ.X q ai) (hz:Ev mJ w φ z r):Ev mJ w φ (.BoolOp .And [x,y,z] pos) r:=.mk λs i=>by
 rw [Te]
 exact (Cw (a:=ai) (r:=r) hx t (λz=>Cw (a:=ai) (r:=r) hy u (λz=>hz) rfl) rfl).run s i
noncomputable def F4:List (List Nat):=[[109,97,120,108,105,110,101,108,101,110,32,109,117,115,116,32,98,101,32,97,116,32,108,101,97,115,116,32,52],[67,111,110,116,114,111,108,32,99,104,97,114,97,99,116,101,114,115,32,110,111,116,32,97,108,108,111,119,101,100,32,105,110,32,104,101,97,100,101,114,115]]
theorem N7:xu=S (F4[0]):=by decide+kernel
theorem OW:w5=S (F4[1]):=by decide+kernel
theorem I6 (G:Gd w 5 (cV A g L D)) (x0:σ.lookup ("words":Str)=aa (.list [.str xu,.str w5]))
  (hb:mZ mJ w (cV A g L D).env (cV A g L D).A (In (cV A g L D) σ Λ) b J):mZ mJ w (cV A g L D).env (cV A g L D).A (In (cV A g L D) σ Λ) (nB nI 12::b) J:=by
 have hz:=aw
 have hu:(cV A g L D).A.units+64<fw:=by have:=G.room.2.2;exact (mK (.i (.b (.a (.a xA (.m 10 xN)) xP) xB) (.b (.a xA (.c 64)) xB)) [_,_]) this
 rw [N7,OW] at x0
 refine nk (d:=false) (m8 (p:=.list (F4.map λx=>.str (S x))) (q:=.list (F4.map λx=>.str (S x))) (nF x0) (qo (mM (nh (by kernel_rfl)) (mM (nh (by kernel_rfl)) mP)) (by exact (mK (.i (.e xA xL) (.l xM xA)) [_]) hz)) (Hh hu (λx hx=>(by decide: ∀x∈F4,∀c∈x,c<256) x hx))) (λh=>by exact oW h) (λz=>hb)
theorem Ly (G:Gd w 5 (cV A g L D)) (hW:12<=W) (x0:σ.lookup ("width":Str)=aa (.int (W:Nat))) (x1:σ.lookup ("eol":Str)=aa (.str (S Un))) (x2:σ.lookup ("mark":Str)=aa (.str (S mark)))
  (hb:mZ mJ w (cV A g L D).env (cV A g L D).A (In (cV A g L D) (("empty",.list (([[],[],[],[]]:List (List Nat)).map λx=>.str (S x)))::σ) Λ) b J):mZ mJ w (cV A g L D).env (cV A g L D).A (In (cV A g L D) σ Λ) (nB nI 18::b) J:=by
 have hz:=aw
 refine mS (p:=.list (([[],[],[],[]]:List (List Nat)).map λx=>.str (S x))) (qo (mM ?a (mM ?b (mM ?c (mM ?d mP)))) (by exact (mK (.i (.e xA xL) (.l xK xA)) [_]) hz)) hb
 case a=>exact oP (Gd.sub (m:=2) G (by decide)) (ps:=[.str (S []),.int (W:Nat),.str (S Un)]) (by kernel_rfl) (Cr _).e (mM (nh (by kernel_rfl)) (mM (nF x0) (mM (nF x1) mP))) (DN (by exact (mK (.i (.l (.c 12) xA) (.l xK xA)) [_]) hW))
 case b=>exact oP (Gd.sub (m:=2) G (by decide)) (ps:=[.str (S []),.str (S mark)]) (by kernel_rfl) (Cq _).e (mM (nh (by kernel_rfl)) (mM (nF x2) mP)) Eh
 case c=>exact oP (Gd.sub (m:=1) G (by decide)) (ps:=[.bytes #[]]) (by kernel_rfl) (IG _).e (mM Mw mP) Jb
 case d=>exact oP (Gd.sub (m:=1) G (by decide)) (ps:=[.str (S [])]) (by kernel_rfl) (Ii _).e (mM (nh (by kernel_rfl)) mP) (xi (T:=[]) (by decide))
theorem PM (Q:HP):ji (λp q=>PV.tup [p,q]) (Q.map λq=>.str (S q.1)) (Q.map λq=>.str (S q.2))=hp Q:=by
 induction Q with
 |nil=>rfl
 |cons q Q ih=>rw [ba,ba,List.zipWith_cons_cons,ih];rfl
theorem Mk (G:Gd w 5 (cV A g L D)) {Q:HP} (hl:Q.length<=100) (h9: ∀q∈Q,vC q.1/\vC q.2) (hΛ:(D,hp Q)∈Λ) (x0:σ.lookup ("due":Str)=aa (.list (hp Q))) (x2:σ.lookup ("struck":Str)=aa (.inst D))
  (hb:mZ mJ w (cV A g L D).env (cV A g L D).A (In (cV A g L D) (("whole",.bool ai)::σ) Λ) b J):mZ mJ w (cV A g L D).env (cV A g L D).A (In (cV A g L D) σ Λ) (nB nI 19::b) J:=by
 have hz:=aw
 have hu:(cV A g L D).A.units+64<fw:=by have:=G.room.2.2;exact (mK (.i (.b (.a (.a xA (.m 10 xN)) xP) xB) (.b (.a xA (.c 64)) xB)) [_,_]) this
 refine mS (p:=.bool ai) (Cw (a:=ai) (p:=.bool ai) (q:=.bool ai) (vm (p:=.list (hp Q)) (q:=.list (hp Q)) ?a (nF x0) (Ch hu h9)) qA (λz=>vm (p:=.list (hp Q)) (q:=.list (hp Q)) ?b (nF x0) (Ch hu h9)) rfl) hb
 case a=>exact xk (Gd.sub (m:=1) G (by decide)) (l:=Q) (sM (nF x2) hΛ) (yn (by exact (mK (.i (.l xA xP) (.l xA xQ)) [_]) hl)) (by kernel_rfl) (DV _).e (by kernel_rfl) (by kernel_rfl)
 case b=>
  refine mW (F7 (ps:=Q.map λq=>.str (S q.1)) (qs:=Q.map λq=>.str (S q.2)) (r6 G (by kernel_rfl) (by kernel_rfl)) (tq (r6 G (by kernel_rfl) (by kernel_rfl)) (mM ?k (mM ?v mP))) G.room.1 (by rw [ah,ah]) (by rw [ah];exact (mK (.i (.l xA xP) (.l xA (.c 100000))) [_]) hl)) (by rw [PM])
  case k=>exact xk (Gd.sub (m:=1) G (by decide)) (l:=Q) (sM (nF x2) hΛ) (DF (by exact (mK (.i (.l xA xP) (.l xA xQ)) [_]) hl)) (by kernel_rfl) (Iw _).e (by kernel_rfl) (by kernel_rfl)
  case v=>exact xk (Gd.sub (m:=1) G (by decide)) (l:=Q) (sM (nF x2) hΛ) (GE (by exact (mK (.i (.l xA xP) (.l xA xQ)) [_]) hl)) (by kernel_rfl) (Ny _).e (by kernel_rfl) (by kernel_rfl)
theorem Om (G:Gd w 5 (cV A g L D)) (x0:σ.lookup ("whole":Str)=aa (.bool ai)) (x1:σ.lookup ("book":Str)=aa (.hdr (hp []))) (x2:σ.lookup ("empty":Str)=aa (.list (([[],[],[],[]]:List (List Nat)).map λx=>.str (S x)))):
  mZ mJ w (cV A g L D).env (cV A g L D).A (In (cV A g L D) σ Λ) [nB nI 20] (uD (cV A g L D).g [] (.bool ai)):=by
 have hz:=aw
 have hu:(cV A g L D).A.units+64<fw:=by have:=G.room.2.2;exact (mK (.i (.b (.a (.a xA (.m 10 xN)) xP) xB) (.b (.a xA (.c 64)) xB)) [_,_]) this
 refine nt (Py (nF x0) qA (q:=.bool ai) ?b qA ?c) m4.rfl (λz h=>nomatch h)
 case b=>exact vm (p:=.list (hp [])) (q:=.list (hp [])) (xk (Gd.sub (m:=1) G (by decide)) (l:=[]) (tI (nF x1)) (yn (by decide)) (by kernel_rfl) (DV _).e (by kernel_rfl) (by kernel_rfl)) (qo mP (by exact mK (.l xJ xA) [_])) (Ch hu (λz h=>nomatch h))
 case c=>exact vm (p:=.list (([[],[],[],[]]:List (List Nat)).map λx=>.str (S x))) (q:=.list (([[],[],[],[]]:List (List Nat)).map λx=>.str (S x))) (nF x2) (qo (mM (nh (by kernel_rfl)) (mM (nh (by kernel_rfl)) (mM (nh (by kernel_rfl)) (mM (nh (by kernel_rfl)) mP)))) (by exact (mK (.i (.e xA xL) (.l xK xA)) [_]) hz)) (OK hu (λx hx=>(by decide: ∀x∈([[],[],[],[]]:List (List Nat)),∀c∈x,c<256) x hx))
end
abbrev LF:=List Nat
noncomputable def t8:LF->LF->LF
 |[],g=>g
 |a::f,[]=>a::f
 |a::f,b::g=>(a+b)::t8 f g
noncomputable def H1 (k:Nat) (f:LF):LF:=f.map (k* ·)
noncomputable def BQ (k:Nat):LF:=aH k 0++[1]
noncomputable def ev (xs:List Int):LF->Int
 |[]=>0
 |c::f=>match xs with
  |[]=>0
  |x::xs=>(c:Int)*x+ev xs f
theorem rG (xs:List Int):ev xs []=0:=by unfold ev;rfl
theorem ev_add: ∀(xs:List Int) (f g:LF),ev xs (t8 f g)=ev xs f+ev xs g
 |xs,[],g=>by rw [t8,rG];exact mK (.E xA (.a xJ xA)) [] [_]
 |xs,a::f,[]=>by rw [t8,rG];exact mK (.E xA (.a xA xJ)) [] [_]
 |[],a::f,b::g=>by rw [t8,ev,ev,ev];rfl
 |x::xs,a::f,b::g=>by
  rw [t8,ev,ev,ev]
  rw [ev_add xs f g,fY,Int.add_mul]
  exact mK (.E (.a (.a xA xB) (.a xC xD)) (.a (.a xA xC) (.a xB xD))) [] [_,_,_,_]
theorem ev_mul (k:Nat): ∀(xs:List Int) (f:LF),ev xs (H1 k f)=(k:Int)*ev xs f
 |xs,[]=>by show ev xs []=_*ev xs [];rw [rG,gj]
 |[],a::f=>by show (0:Int)=(k:Int)*0;rw [gj]
 |x::xs,a::f=>by
  have ih:=ev_mul k xs f
  show ((k*a:Nat):Int)*x+ev xs (H1 k f)=(k:Int)*((a:Int)*x+ev xs f)
  rw [ih,Int.natCast_mul,fV,fQ]
theorem GT: ∀(k:Nat) (xs:List Int),ev xs (BQ k)=xs[k]?.getD 0
 |0,[]=>rfl
 |0,x::xs=>by show (1:Int)*x+ev xs []=x;rw [rG];exact mK (.E (.a (.m 1 xA) xJ) xA) [] [_]
 |k+1,[]=>by rfl
 |k+1,x::xs=>by
  have ih:=GT k xs
  show (0:Int)*x+ev xs (BQ k)=_
  rw [ih];simp
noncomputable def DG:LF->LF->Bool
 |[],g=>g.all λb=>b % 128==0
 |a::f,[]=>a % 128==0&&DG f []
 |a::f,b::g=>a % 128==b % 128&&DG f g
theorem GI: ∀(g:LF) (xs:List Int),(g.all λb=>b % 128==0)=ai->(128:Int)∣ev xs g
 |[],xs,_=>by rw [rG];exact ⟨0,rfl⟩
 |b::g,[],_=>by rw [ev];exact ⟨0,rfl⟩
 |b::g,x::xs,h=>by
  rw [iL,bI,beq_iff_eq] at h
  obtain ⟨u,hu⟩:=GI g xs h.2
  show 128∣(b:Int)*x+ev xs g
  refine ⟨((b/128:Nat):Int)*x+u,?_⟩
  have e:(b:Int)=128*((b/128:Nat):Int):=by exact (mK (.i (.e (.e xA 128) xJ) (.E (.k xA) (.m 128 (.k (.d xA 128))))) [_]) h.1
  rw [e,fQ,fV];exact (mK (.i (.E xB (.m 128 xC)) (.E (.a (.m 128 xA) xB) (.a (.m 128 xA) (.m 128 xC)))) [] [_,_,_]) hu
theorem CJ: ∀(f g:LF) (xs:List Int),DG f g=ai->(128:Int)∣ev xs f - ev xs g
 |[],g,xs,h=>by
  obtain ⟨u,hu⟩:=GI g xs h
  rw [rG,hu]
  exact ⟨-u,by rw [Int.mul_neg];exact mK (.E (.s xJ (.m 128 xA)) (.g (.m 128 xA))) [] [_]⟩
 |a::f,[],[],_=>by rw [ev,ev];exact ⟨0,rfl⟩
 |a::f,[],x::xs,h=>by
  rw [DG,bI,beq_iff_eq] at h
  refine eE (CJ f [] xs h.2) λu hu=> ?_
  rw [rG] at hu
  rw [rG]
  show 128∣(a:Int)*x+ev xs f - 0
  refine ⟨((a/128:Nat):Int)*x+u,?_⟩
  have e:(a:Int)=128*((a/128:Nat):Int):=by exact (mK (.i (.e (.e xA 128) xJ) (.E (.k xA) (.m 128 (.k (.d xA 128))))) [_]) h.1
  rw [e,fQ,fV];exact (mK (.i (.E (.s xB xJ) (.m 128 xC)) (.E (.s (.a (.m 128 xA) xB) xJ) (.a (.m 128 xA) (.m 128 xC)))) [] [_,_,_]) hu
 |a::f,b::g,[],_=>by rw [ev,ev];exact ⟨0,rfl⟩
 |a::f,b::g,x::xs,h=>by
  rw [DG,bI,beq_iff_eq] at h
  refine eE (CJ f g xs h.2) λu hu=> ?_
  refine ⟨(((a/128:Nat):Int) - ((b/128:Nat):Int))*x+u,?_⟩
  have e:(a:Int) - b=128*(((a/128:Nat):Int) - ((b/128:Nat):Int)):=by have:=h.1;exact (mK (.i (.e (.e xA 128) (.e xB 128)) (.E (.s (.k xA) (.k xB)) (.m 128 (.s (.k (.d xA 128)) (.k (.d xB 128)))))) [_,_]) h.1
  have e2:(a:Int)*x - (b:Int)*x=128*((((a/128:Nat):Int) - ((b/128:Nat):Int))*x):=by rw [<-Int.sub_mul,e,fQ]
  rw [fV];exact (mK (.i (.E (.s xB xD) (.m 128 xF)) (.i (.E (.s xA xC) (.m 128 xE)) (.E (.s (.a xA xB) (.a xC xD)) (.a (.m 128 xE) (.m 128 xF))))) [] [_,_,_,_,_,_]) hu e2
def pN (xs:List Int) (f:LF):Nat:=((ev xs f).fmod 128).toNat
theorem uO (xs:List Int) (f:LF):((pN xs f:Nat):Int)=(ev xs f).fmod 128:=by
 have:=qU (a:=ev xs f) (m:=128) (by decide)
 exact (mK (.i (.L xJ xA) (.E (.k (.t xA)) xA)) [] [_]) this.1
theorem Qx (xs:List Int) (f:LF):pN xs f<128:=by
 have:=qU (a:=ev xs f) (m:=128) (by decide)
 exact (mK (.i (.B xA xR) (.b (.t xA) xR)) [] [_]) this.2
theorem Kh (a:Int):a.fmod 128=a % 128:=bM _ (by decide)
theorem Pr (xs:List Int) (f g:LF):(pN xs f+pN xs g) % 128=pN xs (t8 f g):=by
 have h1:=uO xs f
 have h2:=uO xs g
 have h3:=uO xs (t8 f g)
 rw [Kh] at h1 h2 h3
 rw [ev_add] at h3
 exact (mK (.i (.E (.k xA) (.e xA 128)) (.i (.E (.k xB) (.e xB 128)) (.i (.E (.k xC) (.e (.a xA xB) 128)) (.e (.e (.a xA xB) 128) xC)))) [_,_,_] [_,_]) h1 h2 h3
theorem Qf (h:DG f g=ai):pN xs f=pN xs g:=by
 have h1:=uO xs f
 have h2:=uO xs g
 rw [Kh] at h1 h2
 obtain ⟨u,hu⟩:=CJ f g xs h
 exact (mK (.i (.E (.k xA) (.e xA 128)) (.i (.E (.k xB) (.e xB 128)) (.i (.E (.s xA xB) (.m 128 xC)) (.e xA xB)))) [_,_] [_,_,_]) h1 h2 hu
theorem Oh (xs:List Int):pN xs []=0:=by unfold pN;rw [rG];rfl
noncomputable def HZ:LF->List LF->List LF
 |_,[]=>[]
 |a,x::t=>t8 x a::HZ (t8 x a) t
noncomputable def Lc:LF->List LF->LF
 |a,[]=>a
 |a,x::t=>Lc (t8 x a) t
noncomputable def zY:Nat->List (List Nat)->List (List Nat)
 |_,[]=>[]
 |a,r::t=>oO a r.dropLast::zY (pS a r.dropLast) t
noncomputable def H5:LF->List (List LF)->List (List LF)
 |_,[]=>[]
 |a,r::t=>HZ a r.dropLast::H5 (Lc a r.dropLast) t
theorem GH (xs:List Int): ∀(r:List LF) (a:LF),oO (pN xs a) (r.map (pN xs))=(HZ a r).map (pN xs)/\pS (pN xs a) (r.map (pN xs))=pN xs (Lc a r)
 |[],a=>⟨rfl,rfl⟩
 |x::t,a=>by
  have ih:=GH xs t (t8 x a)
  show ((pN xs x+pN xs a) % 128::oO ((pN xs x+pN xs a) % 128) (t.map (pN xs))=_)/\pS ((pN xs x+pN xs a) % 128) (t.map (pN xs))=_
  rw [Pr,ih.1,ih.2]
  exact ⟨rfl,rfl⟩
theorem HA (xs:List Int): ∀(rows:List (List LF)) (a:LF),zY (pN xs a) (rows.map λr=>r.map (pN xs))=(H5 a rows).map λr=>r.map (pN xs)
 |[],_=>rfl
 |r::t,a=>by
  have e:(r.map (pN xs)).dropLast=r.dropLast.map (pN xs):=by rw [mI]
  have h:=GH xs r.dropLast a
  show oO (pN xs a) (r.map (pN xs)).dropLast::zY (pS (pN xs a) (r.map (pN xs)).dropLast) _=_
  rw [e,h.1,h.2,HA xs t]
  rfl
noncomputable def Bn (rows:List (List Nat)):Nat->List (List Nat)
 |0=>rows
 |i+1=>zY 0 (Bn rows i)
noncomputable def uq (rows:List (List LF)):Nat->List (List LF)
 |0=>rows
 |i+1=>H5 [] (uq rows i)
theorem GN (xs:List Int) (rows:List (List LF)): ∀i,Bn (rows.map λr=>r.map (pN xs)) i=(uq rows i).map λr=>r.map (pN xs)
 |0=>rfl
 |i+1=>by
  show zY 0 (Bn _ i)=_
  rw [GN xs rows i]
  have:=HA xs (uq rows i) []
  rw [Oh] at this
  exact this
def NA (sh:Nat) (s:List LF):List LF:=(dF (s++[[]]) ([]::s)).map λq=>t8 q.1 (H1 sh q.2)
def CI (x:LF) (Ve:List Nat):List LF:=Ve.foldl (λs sh=>NA sh s) [x]
def D2 (t s:List LF):List LF:=(dF t s).map λq=>t8 q.1 q.2
noncomputable def y9 (ls:List Nat) (last n k:Nat):List Nat:=(ag k).foldl (λt i=>t++aH (ls[n+1+i]?.getD 0 - ls[n+i]?.getD 0) (last - (n+1+i)+1)) []
def Nk (ls:List Nat) (last n i:Nat):List Nat:=aH i (last - n)++aH (ls[n]?.getD 0 - 2 - i) (last - n+1)++y9 ls last n (last - n)
def vU (rows:List (List LF)) (last n k:Nat) (Vb:List LF):List LF:=(ag k).foldl (λt i=>D2 t (CI ((rows[n]?.getD [])[i]?.getD []) (Nk (rows.map bj) last n i))) Vb
def FI (rows:List (List LF)) (last k:Nat):List LF:=(ag k).foldl (λt n=>vU rows last n ((rows[n]?.getD []).length - 1) t) (aH ((rows[last]?.getD []).length - 1) [])
def D3 (rows:List (List LF)):List LF:=(rows[rows.length - 1]?.getD []).getLast?.getD []::FI rows (rows.length - 1) rows.length
section
variable (xs:List Int)
theorem PY (sh:Nat) (s:List LF):(NA sh s).map (ev xs)=uw (sh:Int) (s.map (ev xs)):=by
 unfold NA uw
 have e1:s.map (ev xs)++[0]=(s++[[]]).map (ev xs):=by rw [bi,eZ,rG]
 have e2:(0::s.map (ev xs))=(([]:LF)::s).map (ev xs):=by rw [ba,rG]
 rw [e1,e2,List.zip_map,aB,aB]
 refine aV λq z=> ?_
 show ev xs (t8 q.1 (H1 sh q.2))=ev xs q.1+(sh:Int)*ev xs q.2
 rw [ev_add,ev_mul]
theorem Fv: ∀(Ve:List Nat) (s:List LF),(Ve.foldl (λs sh=>NA sh s) s).map (ev xs)=(Ve.map λk:Nat=>(k:Int)).foldl (λs sh=>uw sh s) (s.map (ev xs))
 |[],_=>rfl
 |sh::Ve,s=>by
  rw [eY,ba,eY,Fv Ve,PY]
theorem OC (t s:List LF):(D2 t s).map (ev xs)=AO (t.map (ev xs)) (s.map (ev xs)):=by
 unfold D2 AO
 rw [List.zip_map,aB,aB]
 refine aV λq z=> ?_
 exact ev_add xs q.1 q.2
def uo (rows:List (List LF)):List IL:=rows.map λr=>r.map (ev xs)
theorem wl (rows:List (List LF)) (n:Nat):nq (uo xs rows) n=(rows[n]?.getD []).map (ev xs):=by
 unfold nq uo
 rw [a7]
 cases rows[n]? <;>rfl
theorem zm (rows:List (List LF)) (n:Nat):(nq (uo xs rows) n).length=(rows.map bj)[n]?.getD 0:=by
 rw [wl,ah,a7]
 cases rows[n]? <;>rfl
theorem ES (rows:List (List LF)) (last n:Nat): ∀k,n+k<=last->(y9 (rows.map bj) last n k).map (λk:Nat=>(k:Int))=qt (uo xs rows) last n k
 |0,_=>rfl
 |k+1,h=>by
  have ih:=ES rows last n k (by exact (mK (.i (.l (.a xA (.a xB xI)) xC) (.l (.a xA xB) xC)) [_,_,_]) h)
  rw [va,<-ih]
  have e:y9 (rows.map bj) last n (k+1)=y9 (rows.map bj) last n k++aH ((rows.map bj)[n+1+k]?.getD 0 - (rows.map bj)[n+k]?.getD 0) (last - (n+1+k)+1):=by
   unfold y9;rw [cy,dc];rfl
  rw [e,bi,fa,zm,zm]
  congr 2
  exact (mK (.i (.l (.a xB (.a xC xI)) xA) (.E (.k (.a (.s xA (.a (.a xB xI) xC)) xI)) (.a (.s (.k xA) (.k (.a (.a xB xI) xC))) xI))) [_,_,_]) h
theorem J6 (rows:List (List LF)) (i:Nat) (h:n<=last):(Nk (rows.map bj) last n i).map (λk:Nat=>(k:Int))=tB (uo xs rows) last n i:=by
 unfold Nk tB
 rw [bi,bi,fa,fa,ES xs rows last n (last - n) (by exact (mK (.i (.l xA xB) (.l (.a xA (.s xB xA)) xB)) [_,_]) h),zm]
 congr 3
 ·congr 1;exact (mK (.i (.l xB xA) (.E (.k (.s xA xB)) (.s (.k xA) (.k xB)))) [_,_]) h
 ·exact (mK (.i (.l xB xA) (.E (.k (.a (.s xA xB) xI)) (.a (.s (.k xA) (.k xB)) xI))) [_,_]) h
theorem Dq (rows:List (List LF)) (h:n<=last) (Vb:List LF): ∀k,(vU rows last n k Vb).map (ev xs)=r9 (uo xs rows) last n k (Vb.map (ev xs))
 |0=>rfl
 |k+1=>by
  have ih:=Dq rows h Vb k
  rw [w8,<-ih]
  have e:vU rows last n (k+1) Vb=D2 (vU rows last n k Vb) (CI ((rows[n]?.getD [])[k]?.getD []) (Nk (rows.map bj) last n k)):=by
   unfold vU;rw [cy,dc];rfl
  rw [e,OC]
  congr 1
  unfold CI qN
  rw [Fv,J6 xs rows k h]
  congr 1
  rw [wl,a7]
  cases (rows[n]?.getD [])[k]? with
  |none=>show [ev xs []]=[0];rw [rG]
  |some f=>rfl
theorem Kl (rows:List (List LF)) (last:Nat): ∀k,k<=last+1->(FI rows last k).map (ev xs)=rR (uo xs rows) last k
 |0,_=>by
  show (aH _ []).map (ev xs)=aH _ 0
  rw [fa,rG,wl,ah]
 |k+1,h=>by
  have ih:=Kl rows last k (by exact (mK (.i (.l (.a xA xI) (.a xB xI)) (.l xA (.a xB xI))) [_,_]) h)
  rw [yM,<-ih]
  have e:FI rows last (k+1)=vU rows last k ((rows[k]?.getD []).length - 1) (FI rows last k):=by
   unfold FI;rw [cy,dc];rfl
  rw [e,Dq xs rows (by exact (mK (.i (.l (.a xA xI) (.a xB xI)) (.l xA xB)) [_,_]) h),wl,ah]
theorem Oz (rows:List (List LF)) (h:rows≠[]):zH (uo xs rows)=(D3 rows).map λf=>(ev xs f).fmod 128:=by
 have hl:(uo xs rows).length=rows.length:=ah ..
 have hp:0<rows.length:=dP.mpr h
 unfold zH D3
 rw [hl,<-Kl xs rows (rows.length - 1) rows.length (by exact mK (.l xA (.a (.s xA xI) xI)) [_]),wl,gB]
 rw [ba,ba,aB]
 congr 1
 cases (rows[rows.length - 1]?.getD []).getLast? with
 |none=>show Int.fmod 0 128=_;show _=Int.fmod (ev xs []) 128;rw [rG]
 |some f=>rfl
end
def r5 (s:List Nat):List (List LF):=(ag 4).map λn=>(ag (s[n]?.getD 0)).map λj=>BQ (5*n+j)
def Ss (s:List Nat) (n:Nat) (T:List LF):Bool:=T.length==s[n]?.getD 0&&(ag 5).all λi=> !(decide (i<s[n]?.getD 0))||DG (((uq (r5 s) i)[n]?.getD []).getLast?.getD []) (T[i]?.getD [])
def T6 (s:List Nat):Bool:=(ag 6).all λi=>(uq (r5 s) i).map bj==(ag 4).map λn=>s[n]?.getD 0 - i
def SI (s:List Nat):Bool:=T6 s&&(ag 4).all λn=>Ss s n (D3 ((r5 s).take (n+1)))
def Sl:Bool:=(ag 5).all λa=>(ag 5).all λb=>(ag 5).all λc=>(ag 5).all λd=> !(decide (a<=b)&&decide (b<=c)&&decide (c<=d))||SI [a+1,b+1,c+1,d+1]
theorem Ms:Sl=ai:=by decide+kernel
structure pq (sz:Nat->Nat) (rs:Nat->List Nat):Prop where
 s0:1<=sz 0
 s1:sz 0<=sz 1
 s2:sz 1<=sz 2
 s3:sz 2<=sz 3
 s4:sz 3<=5
 len: ∀n<4,(rs n).length=sz n
 lt: ∀n<4,∀x∈rs n,x<128
section
variable {sz:Nat->Nat} {rs:Nat->List Nat}
noncomputable def yK (sz:Nat->Nat):List Nat:=[sz 0,sz 1,sz 2,sz 3]
theorem zD (sz:Nat->Nat) (h:n<4):(yK sz)[n]?.getD 0=sz n:=by
 match n,h with
 |0,_=>rfl
 |1,_=>rfl
 |2,_=>rfl
 |3,_=>rfl
theorem Ju (R:pq sz rs):SI (yK sz)=ai:=by
 have h:=Ms
 have h0:=br.mp h (sz 0 - 1) (aL.mpr (by have:=R.s1;have:=R.s2;have:=R.s3;have:=R.s4;exact (mK (.i (.l xA xB) (.i (.l xB xC) (.i (.l xC xD) (.i (.l xD xN) (.b (.s xA xI) xN))))) [_,_,_,_]) (by assumption) (by assumption) (by assumption) this))
 have h1:=br.mp h0 (sz 1 - 1) (aL.mpr (by have:=R.s2;have:=R.s3;have:=R.s4;exact (mK (.i (.l xA xB) (.i (.l xB xC) (.i (.l xC xN) (.b (.s xA xI) xN)))) [_,_,_]) (by assumption) (by assumption) this))
 have h2:=br.mp h1 (sz 2 - 1) (aL.mpr (by have:=R.s3;have:=R.s4;exact (mK (.i (.l xA xB) (.i (.l xB xN) (.b (.s xA xI) xN))) [_,_]) (by assumption) this))
 have h3:=br.mp h2 (sz 3 - 1) (aL.mpr (by have:=R.s4;exact (mK (.i (.l xA xN) (.b (.s xA xI) xN)) [_]) this))
 have e:(!(decide (sz 0 - 1<=sz 1 - 1)&&decide (sz 1 - 1<=sz 2 - 1)&&decide (sz 2 - 1<=sz 3 - 1)))=false:=by
  rw [decide_eq_true (by have:=R.s1;exact (mK (.i (.l xA xB) (.l (.s xA xI) (.s xB xI))) [_,_]) this),decide_eq_true (by have:=R.s2;exact (mK (.i (.l xA xB) (.l (.s xA xI) (.s xB xI))) [_,_]) this),decide_eq_true (by have:=R.s3;exact (mK (.i (.l xA xB) (.l (.s xA xI) (.s xB xI))) [_,_]) this)];rfl
 rw [e,Bool.false_or] at h3
 have b0:=R.s0
 have b1:=R.s1
 have b2:=R.s2
 have b3:=R.s3
 rw [show sz 0 - 1+1=sz 0 by exact (mK (.i (.l xI xA) (.e (.a (.s xA xI) xI) xA)) [_]) b0,show sz 1 - 1+1=sz 1 by exact (mK (.i (.l xI xB) (.i (.l xB xA) (.e (.a (.s xA xI) xI) xA))) [_,_]) b0 b1,show sz 2 - 1+1=sz 2 by exact (mK (.i (.l xI xB) (.i (.l xB xC) (.i (.l xC xA) (.e (.a (.s xA xI) xI) xA)))) [_,_,_]) b0 b1 b2,show sz 3 - 1+1=sz 3 by exact (mK (.i (.l xI xB) (.i (.l xB xC) (.i (.l xC xD) (.i (.l xD xA) (.e (.a (.s xA xI) xI) xA))))) [_,_,_,_]) b0 b1 b2 b3] at h3
 exact h3
noncomputable def v9 (rs:Nat->List Nat):List Int:=(ag 20).map λk=>(((rs (k/5))[k % 5]?.getD 0:Nat):Int)
theorem ev_at (R:pq sz rs) (hn:n<4) (hj:j<5):ev (v9 rs) (BQ (5*n+j))=(((rs n)[j]?.getD 0:Nat):Int):=by
 rw [GT]
 unfold v9
 rw [oZ (by exact (mK (.i (.b xA xK) (.i (.b xB xN) (.b (.a (.m 5 xA) xB) (.c 20)))) [_,_]) hn hj),show (5*n+j)/5=n by exact (mK (.i (.b xB xN) (.e (.d (.a (.m 5 xA) xB) 5) xA)) [_,_]) hj,show (5*n+j) % 5=j by exact (mK (.i (.b xB xN) (.e (.e (.a (.m 5 xA) xB) 5) xB)) [_,_]) hj]
 rfl
theorem tW (R:pq sz rs) (hn:n<4):1<=sz n/\sz n<=sz 3/\sz n<=5:=by
 have b0:=R.s0
 have b1:=R.s1
 have b2:=R.s2
 have b3:=R.s3
 have b4:=R.s4
 match n,hn with
 |0,_=>exact (mK (.i (.l xI xA) (.i (.l xA xC) (.i (.l xC xD) (.i (.l xD xB) (.i (.l xB xN) (.a (.l xI xA) (.a (.l xA xB) (.l xA xN)))))))) [_,_,_,_]) b0 b1 b2 b3 b4
 |1,_=>exact (mK (.i (.l xI xC) (.i (.l xC xA) (.i (.l xA xD) (.i (.l xD xB) (.i (.l xB xN) (.a (.l xI xA) (.a (.l xA xB) (.l xA xN)))))))) [_,_,_,_]) b0 b1 b2 b3 b4
 |2,_=>exact (mK (.i (.l xI xC) (.i (.l xC xD) (.i (.l xD xA) (.i (.l xA xB) (.i (.l xB xN) (.a (.l xI xA) (.a (.l xA xB) (.l xA xN)))))))) [_,_,_,_]) b0 b1 b2 b3 b4
 |3,_=>exact (mK (.i (.l xI xB) (.i (.l xB xC) (.i (.l xC xD) (.i (.l xD xA) (.i (.l xA xN) (.a (.l xI xA) (.a (.l xA xA) (.l xA xN)))))))) [_,_,_,_]) b0 b1 b2 b3 b4
theorem Q8 (R:pq sz rs) (hn:n<4) (hj:j<sz n):pN (v9 rs) (BQ (5*n+j))=(rs n)[j]?.getD 0:=by
 have h5:=(tW R hn).2.2
 have Uo:=R.len n hn
 unfold pN
 rw [ev_at R hn (by exact (mK (.i (.b xA xB) (.i (.l xB xN) (.b xA xN))) [_,_]) hj h5)]
 have Wk:(rs n)[j]? =aa ((rs n)[j]'(by exact (mK (.i (.b xA xC) (.i (.e xB xC) (.b xA xB))) [_,_,_]) hj Uo)):=aA (by exact (mK (.i (.b xA xC) (.i (.e xB xC) (.b xA xB))) [_,_,_]) hj Uo)
 have Ux:=R.lt n hn ((rs n)[j]'(by exact (mK (.i (.b xA xC) (.i (.e xB xC) (.b xA xB))) [_,_,_]) hj Uo)) (dn (by exact (mK (.i (.b xA xC) (.i (.e xB xC) (.b xA xB))) [_,_,_]) hj Uo))
 rw [Wk]
 rw [bM _ (by decide)];exact (mK (.i (.b xA xR) (.e (.t (.e (.k xA) 128)) xA)) [_]) Ux
theorem HK {f:Nat->Nat} (hl:l.length=k) (h: ∀j<k,f j=l[j]?.getD 0):(ag k).map f=l:=by
 refine gQ (by rw [ah,be,hl]) λi h1 h2=> ?_
 rw [gO,cX,h i (by exact (mK (.i (.e xC xB) (.i (.b xA xC) (.b xA xB))) [_,_,_]) hl h2),aA h2];rfl
theorem Kt (R:pq sz rs):((r5 (yK sz)).map λr=>r.map (pN (v9 rs)))=(ag 4).map rs:=by
 unfold r5
 rw [aB]
 refine aV λn hn=> ?_
 have hn:=aL.mp hn
 show eV _ (eV _ _)=_
 rw [aB,zD sz hn]
 exact HK (R.len n hn) λj hj=>Q8 R hn hj
theorem Lb (R:pq sz rs) (hn:n<4):uo (v9 rs) ((r5 (yK sz)).take (n+1))=sV rs (n+1):=by
 unfold uo r5 sV
 rw [<-iK,List.take_range,fX (by exact (mK (.i (.b xA xK) (.l (.a xA xI) xK)) [_]) hn),aB]
 refine aV λk hk=> ?_
 have hk:=aL.mp hk
 have hk4:k<4:=by exact (mK (.i (.b xB xK) (.i (.b xA (.a xB xI)) (.b xA xK))) [_,_]) hn hk
 show eV _ (eV _ _)=_
 rw [aB,zD sz hk4]
 have h5:=(tW R hk4).2.2
 have e:(ag (sz k)).map (λj=>(rs k)[j]?.getD 0)=rs k:=HK (R.len k hk4) λj z=>rfl
 conv=>rhs;rw [<-e]
 rw [aB]
 refine aV λj hj=> ?_
 have hj:=aL.mp hj
 exact ev_at R hk4 (by exact (mK (.i (.l xB xN) (.i (.b xA xB) (.b xA xN))) [_,_]) h5 hj)
def TF (sz:Nat->Nat) (n:Nat):List LF:=D3 ((r5 (yK sz)).take (n+1))
def wV (sz:Nat->Nat) (rs:Nat->List Nat) (n h:Nat):Nat:=pN (v9 rs) ((TF sz n)[h]?.getD [])
theorem Ew (R:pq sz rs) (hn:n<4):(TF sz n).length=sz n/\ ∀i<sz n,DG (((uq (r5 (yK sz)) i)[n]?.getD []).getLast?.getD []) ((TF sz n)[i]?.getD [])=ai:=by
 have h:=Ju R
 have h2:=br.mp ((aP.mp h).2) n (aL.mpr hn)
 unfold Ss at h2
 rw [zD sz hn] at h2
 refine eA (aP.mp h2) λh3 h4=> ?_
 refine ⟨gF h3,λi hi=> ?_⟩
 have h5:=(tW R hn).2.2
 have h6:=br.mp h4 i (aL.mpr (by exact (mK (.i (.b xA xB) (.i (.l xB xN) (.b xA xN))) [_,_]) hi h5))
 rw [decide_eq_true hi] at h6
 exact h6
theorem Hb (R:pq sz rs) (hi:i<6):(uq (r5 (yK sz)) i).map bj=(ag 4).map λn=>sz n - i:=by
 have h:=Ju R
 have h2:=gF (br.mp ((aP.mp h).1) i (aL.mpr hi))
 rw [h2]
 refine aV λn hn=> ?_
 rw [zD sz (aL.mp hn)]
end
section
variable {sz dt lt:Nat->Nat} {rs:Nat->List Nat}
theorem CR {α β:Type} (g:α->β) (d:α) {l:List α} (h:l.length=k):((ag k).map λi=>g (l[i]?.getD d))=l.map g:=by
 refine gQ (by rw [ah,be,ah,h]) λi h1 h2=> ?_
 rw [ah] at h2
 rw [gO,cX,gO,aA h2];rfl
theorem Hj (R:pq sz rs) (hn:n<4):sI rs n=(yI sz (wV sz rs) n).map λx:Nat=>(x:Int):=by
 have Uu:(r5 (yK sz)).take (n+1)≠[]:=by
  intro q
  have:=congrArg bj q
  unfold r5 at this
  rw [dm,ah,be] at this
  have e:([]:List (List LF)).length=0:=rfl
  exact (mK (.i (.e (.n (.a xA xI) xK) xB) (.n (.e xB xJ))) [_,_]) this e
 unfold sI
 rw [<-Lb R hn,Oz _ _ Uu]
 show (TF sz n).map _=_
 unfold yI wV
 rw [aB,<-CR (λf=>(ev (v9 rs) f).fmod 128) [] (Ew R hn).1]
 refine aV λh z=> ?_
 show (ev (v9 rs) ((TF sz n)[h]?.getD [])).fmod 128=((pN _ _:Nat):Int)
 rw [uO]
theorem Ie (n h:Nat):wV sz rs n h<128:=Qx _ _
theorem Li (R:pq sz rs) (hn:n<4) (hh:h<sz n):(sI rs n)[h]? =aa ((wV sz rs n h:Nat):Int):=by
 rw [Hj R hn,a7]
 unfold yI
 rw [oZ hh];rfl
def VN (sz:Nat->Nat) (rs:Nat->List Nat) (i n:Nat):List Nat:=((uq (r5 (yK sz)) i)[n]?.getD []).map (pN (v9 rs))
theorem ET (R:pq sz rs) (hi:i<6):(uq (r5 (yK sz)) i).length=4:=by
 have:=congrArg bj (Hb R hi)
 rw [ah,ah,be] at this;exact this
theorem Pq (R:pq sz rs) (hi:i<6):Bn ((ag 4).map rs) i=(ag 4).map (VN sz rs i):=by
 rw [<-Kt R,GN]
 rw [<-CR (λr=>r.map (pN (v9 rs))) [] (ET R hi)]
 rfl
theorem NO (R:pq sz rs) (hi:i<6) (hn:n<4):(VN sz rs i n).length=sz n - i:=by
 unfold VN
 rw [ah]
 have h:((uq (r5 (yK sz)) i).map bj)[n]?.getD 0=((ag 4).map λn=>sz n - i)[n]?.getD 0:=by rw [Hb R hi]
 rw [oZ hn,a7] at h
 have hl:=ET R hi
 rw [aA (by exact (mK (.i (.b xA xK) (.i (.e xB xK) (.b xA xB))) [_,_]) hn hl)] at h ⊢
 exact h
theorem PK (R:pq sz rs) (hn:n<4) (hi:i<sz n):(VN sz rs i n).getLast?.getD 0=wV sz rs n i:=by
 have h5:=(tW R hn).2.2
 have hl:=NO R (i:=i) (by exact (mK (.i (.b xA xB) (.i (.l xB xN) (.b xA (.c 6)))) [_,_]) hi h5) hn
 have he:=Qf (xs:=v9 rs) ((Ew R hn).2 i hi)
 unfold wV
 rw [<-he]
 unfold VN at hl ⊢
 rw [ah] at hl
 rw [gB]
 cases hg:((uq (r5 (yK sz)) i)[n]?.getD []).getLast? with
 |none=>rw [j4] at hg;rw [hg] at hl;have e:([]:List LF).length=0:=rfl;exact (mK (.i (.b xC xD) (.i (.e xE (.s xD xC)) (.i (.e xE xJ) (.e xA xB)))) [_,_,_,_,_]) hi hl e
 |some f=>rfl
def ux (dt lt:Nat->Nat) (i:Nat) (q:Nat×List Nat):En:=(kk dt i q.1,lt q.1,q.2)
noncomputable def vo (e:En):Bool:= !e.2.2.isEmpty
noncomputable def yj:Nat->List En->List En
 |_,[]=>[]
 |a,(k,c,r)::t=>(k,c,oO a r.dropLast)::yj (pS a r.dropLast) t
theorem LG (k c a:Nat) (r:List Nat):vo (k,c,oO a r)= !r.isEmpty:=by
 cases r<;>rfl
theorem wn: ∀(es:List En) (a:Nat),o9 a (es.filter vo)=(yj a es).filter vo
 |[],_=>rfl
 |(k,c,r)::t,a=>by
  cases r with
  |nil=>
   have e1:((k,c,[])::t:List En).filter vo=t.filter vo:=rfl
   have e2:(yj a ((k,c,[])::t)).filter vo=(yj a t).filter vo:=rfl
   rw [e1,e2];exact wn t a
  |cons x r=>
   have e1:((k,c,x::r)::t:List En).filter vo=(k,c,x::r)::t.filter vo:=rfl
   rw [e1]
   show (if (x::r).dropLast=[] then [] else [(k,c,oO a (x::r).dropLast)])++o9 (pS a (x::r).dropLast) (t.filter vo)=List.filter vo ((k,c,oO a (x::r).dropLast)::yj (pS a (x::r).dropLast) t)
   rw [wn t]
   have hs:=LG k c a (x::r).dropLast
   by_cases h:(x::r).dropLast=[]
   ·rw [if_pos h,gU (by rw [hs,h];exact dz)];rfl
   ·rw [if_neg h,gS (by rw [hs];simpa using h)];rfl
theorem CP (i:Nat): ∀(ns:List Nat) (vs:List (List Nat)) (a:Nat),yj a ((dF ns vs).map (ux dt lt i))=(dF ns (zY a vs)).map (ux dt lt i)
 |[],vs,a=>by rw [mz,mz];rfl
 |n::ns,[],a=>rfl
 |n::ns,v::vs,a=>by
  show (kk dt i n,lt n,oO a v.dropLast)::yj (pS a v.dropLast) ((dF ns vs).map (ux dt lt i))=_
  rw [CP i ns vs];rfl
theorem JM (i:Nat) (q:Nat×List Nat):vj (ux dt lt i q)=ux dt lt (i+1) q:=by
 have:(if kk dt i q.1=0 then 0 else kk dt i q.1+1)=kk dt (i+1) q.1:=by
  unfold kk
  by_cases h:dt q.1=0
  ·rw [if_pos h,if_pos h];rfl
  ·rw [if_neg h,if_neg h,if_neg (by exact (mK (.i (.n (.e xA xJ)) (.n (.e (.a xA xB) xJ))) [_,_]) h)];exact mK (.e (.a (.a xA xB) xI) (.a xA (.a xB xI))) [_,_]
 show ((if kk dt i q.1=0 then 0 else kk dt i q.1+1),lt q.1,q.2)=_
 rw [this];rfl
theorem Hr (e0:List En) (rows:List (List Nat)) (h0:e0=((dF (ag 4) rows).map (ux dt lt 0)).filter vo): ∀i,ww e0 i=((dF (ag 4) (Bn rows i)).map (ux dt lt i)).filter vo
 |0=>h0
 |i+1=>by
  show (o9 0 (ww e0 i)).map vj=_
  rw [Hr e0 rows h0 i,wn,CP]
  have hf: ∀l:List En,(l.filter vo).map vj=(l.map vj).filter vo:=by
   intro l
   rw [List.filter_map]
   rfl
  rw [hf,aB]
  congr 1
  exact aV λq z=>JM i q
end
section
variable {sz dt lt:Nat->Nat} {rs:Nat->List Nat}
noncomputable def wI (dt lt:Nat->Nat) (rs:Nat->List Nat):List En:=(ag 4).map λn=>(dt n,lt n,rs n)
theorem Jp:(wI dt lt rs).map oo=tV dt lt rs:=by
 unfold wI tV
 rw [aB];rfl
theorem Dl {β:Type} (f:Nat->β) (l:List Nat):dF l (l.map f)=l.map λn=>(n,f n):=by
 induction l with
 |nil=>rfl
 |cons a l ih=>rw [ba,iU,ih];rfl
theorem Gk {α β:Type} (p:β->Bool) (h:α->β) (l:List α):(l.map h).filter p=l.flatMap λn=>if p (h n)=ai then [h n] else []:=by
 induction l with
 |nil=>rfl
 |cons a l ih=>
  rw [ba,bh,<-ih]
  by_cases hp:p (h a)=ai
  ·rw [if_pos hp,gS hp];rfl
  ·rw [if_neg hp,gU hp];rfl
theorem Me (R:pq sz rs):wI dt lt rs=((dF (ag 4) ((ag 4).map rs)).map (ux dt lt 0)).filter vo:=by
 rw [Dl,aB]
 have e:(ag 4).map (ux dt lt 0∘λn=>(n,rs n))=wI dt lt rs:=by
  refine aV λn z=> ?_
  have:kk dt 0 n=dt n:=by unfold kk;split<;>(first|exact (mK (.i (.e xA xJ) (.e xJ xA)) [_]) (by assumption)|exact mK (.e (.a xA xJ) xA) [_])
  show (kk dt 0 n,lt n,rs n)=_
  rw [this]
 rw [e]
 symm
 refine bW.mpr λx hx=> ?_
 obtain ⟨n,hn,rfl⟩:=aK.mp hx
 have hn:=aL.mp hn
 have h1:=R.len n hn
 have h2:=(tW R hn).1
 cases hr:rs n with
 |nil=>rw [hr] at h1;have e:([]:List Nat).length=0:=rfl;exact ((mK (.i (.e xA xB) (.i (.l xI xB) (.n (.e xA xJ)))) [_,_]) h1 h2 e).elim
 |cons x l=>rfl
theorem NH (R:pq sz rs) (hi:i<6):ww (wI dt lt rs) i=(ag 4).flatMap λn=>if i<sz n then [ux dt lt i (n,VN sz rs i n)] else []:=by
 rw [Hr _ _ (Me R) i,Pq R hi,Dl,aB,Gk]
 rw [cn,cn]
 congr 1
 refine aV λn hn=> ?_
 have hn:=aL.mp hn
 have hl:=NO R hi hn
 have e:(vo ((ux dt lt i∘λn=>(n,VN sz rs i n)) n)=ai)↔i<sz n:=by
  show ((!(VN sz rs i n).isEmpty)=ai)↔_
  cases hv:VN sz rs i n with
  |nil=>rw [hv] at hl;have e:([]:List Nat).length=0:=rfl;simp;exact (mK (.i (.e xC (.s xA xB)) (.i (.e xC xJ) (.l xA xB))) [_,_,_]) hl e
  |cons x l=>rw [hv] at hl;rw [aU] at hl;simp;exact (mK (.i (.e (.a xC xI) (.s xB xA)) (.b xA xB)) [_,_,_]) hl
 by_cases h:i<sz n
 ·rw [if_pos (e.mpr h),if_pos h];rfl
 ·rw [if_neg (λq=>h (e.mp q)),if_neg h]
theorem Ke (R:pq sz rs) (hi:i<6):(ww (wI dt lt rs) i).map sj=(ag 4).flatMap (qY sz dt lt (wV sz rs) i):=by
 rw [NH R hi,List.map_flatMap,cn,cn]
 congr 1
 refine aV λn hn=> ?_
 have hn:=aL.mp hn
 unfold qY
 by_cases h:i<sz n
 ·rw [if_pos h,if_pos h,eZ]
  show [(nj (kk dt i n) (lt n),pC (128+(VN sz rs i n).getLast?.getD 0))]=_
  rw [PK R hn h];rfl
 ·rw [if_neg h,if_neg h];rfl
theorem NL (R:pq sz rs): ∀i,i<=6->zx (wI dt lt rs) i=(ag i).flatMap λh=>(ag 4).flatMap (qY sz dt lt (wV sz rs) h)
 |0,_=>rfl
 |i+1,hi=>by
  show zx _ i++(ww _ i).map sj=_
  rw [NL R i (by exact (mK (.i (.l (.a xA xI) (.c 6)) (.l xA (.c 6))) [_]) hi),Ke R (by exact (mK (.i (.l (.a xA xI) (.c 6)) (.b xA (.c 6))) [_]) hi),cy (n:=i),bV,gY]
theorem Q3 (R:pq sz rs):zx (wI dt lt rs) (sz 3)=qF sz dt lt (wV sz rs):=by
 have:=R.s4
 rw [NL R _ (by exact (mK (.i (.l xA xN) (.l xA (.c 6))) [_]) this),zP]
theorem Q9 (R:pq sz rs):ww (wI dt lt rs) (sz 3)=[]:=by
 have:=R.s4
 rw [NH R (by exact (mK (.i (.l xA xN) (.b xA (.c 6))) [_]) this)]
 refine List.flatMap_eq_nil_iff.mpr λn hn=> ?_
 have:=(tW R (aL.mp hn)).2.1
 rw [if_neg (by exact (mK (.i (.l xB xA) (.n (.b xA xB))) [_,_]) this)]
theorem Rv (R:pq sz rs) (W:uJ sz dt lt):Ao 0 (wI dt lt rs):=by
 refine ⟨by unfold wI;rw [ah,be];exact mK (.l xK xK) [] [],λe he=> ?_,?_⟩
 ·refine mX (aK.mp he) λn hn Ub=> ?_;obtain rfl:=Ub
  have hn:=aL.mp hn
  have h1:=R.len n hn
  have h2:=tW R hn
  have h3:=W.dots n hn
  refine ⟨by exact (mK (.i (.b xA xO) (.l xA (.a xM xJ))) [_]) h3,W.lets n hn,λq=> ?_,by exact (mK (.i (.e xA xB) (.i (.l xB xN) (.l (.a xA xJ) xN))) [_,_]) h1 h2.2.2,R.lt n hn⟩
  have q:rs n=[]:=q
  rw [q] at h1
  have e:([]:List Nat).length=0:=rfl
  exact (mK (.i (.e xA xB) (.i (.l xI xB) (.n (.e xA xJ)))) [_,_]) h1 h2.1 e
 ·unfold wI
  rw [mG]
  have:(ag 4).Pairwise λa b=>a<4/\b<4/\a≠b:=by
   rw [show ag 4=[0,1,2,3] from rfl]
   decide
  exact this.imp λ⟨ha,hb,Uu⟩ e=>Uu (W.keys _ ha _ hb e)
end
def BS (ns:List Int):Int:=Bk ns (0,18709805)
def C3 (ns:List Int):List Int:=BH.map (Bk ns)
def wJ (ns:List Int):List Int:=Ex (BS ns)
def sU (ns:List Int) (n:Nat):Nat:=((wJ ns)[n]?.getD 0).toNat
def tK (ns:List Int):Nat:=(BS ns).toNat/625
def rX (ns:List Int) (n:Nat):List Nat:=(xc (C3 ns) (wJ ns) n).map Int.toNat
def wp (ns:List Int) (n:Nat):Nat:=FM (tK ns:Int) n
def uE (ns:List Int) (n:Nat):Nat:=AD (tK ns:Int) n
theorem GJ: ∀l:List Int,(∀x∈l,0<=x)->0<=l.sum
 |[],_=>Int.le_refl _
 |x::l,h=>by
  rw [eb]
  have:=h x (.head _)
  have:=GJ l λy hy=>h y (.tail _ hy)
  exact (mK (.i (.L xJ xA) (.i (.L xJ xB) (.L xJ (.a xA xB)))) [] [_,_]) (by assumption) this
theorem Q2 (ns:List Int):0<=BS ns:=by
 have:0<=((i5 ns (aa ((0:Nat):Int)) (aa 60) (aa 5)).map λx=>x.fmod 1000000000000).sum:=GJ _ λy hy=>by
  obtain ⟨x,_,rfl⟩:=aK.mp hy
  exact (qU (by decide)).1
 exact (mK (.i (.L xJ xA) (.L xJ (.a (.c 18709805) xA))) [] [_]) this
theorem R3 (ns:List Int):(BS ns).fdiv 625=(tK ns:Int):=by
 have:=Q2 ns
 rw [bX _ (by decide)];exact (mK (.i (.L xJ xA) (.E (.d xA 625) (.k (.d (.t xA) 625)))) [] [_]) this
theorem L1 (ns:List Int):(12:Int)+(tK ns:Int).fmod 6=((12+tK ns % 6:Nat):Int):=by
 rw [bM _ (by decide)];exact mK (.E (.a (.c 12) (.e (.k xA) 6)) (.k (.a (.c 12) (.e xA 6)))) [_]
theorem E7 (ns:List Int): ∀x∈wJ ns,1<=x/\x<=5:=λx hx=>by
 have:=(sortI_perm ((ag 4).map (Bo (BS ns)))).mem_iff.mp hx
 refine mX (aK.mp this) λk z Ub=> ?_;obtain rfl:=Ub
 have:=qU (a:=(BS ns).fdiv ((5:Int)^k)) (m:=5) (by decide)
 exact (mK (.i (.L xJ xA) (.i (.B xA xN) (.a (.L xI (.a xI xA)) (.L (.a xI xA) xN)))) [] [_]) this.1 this.2
theorem Ez (ns:List Int):(wJ ns).length=4:=by
 have:=(sortI_perm ((ag 4).map (Bo (BS ns)))).length_eq
 rw [ah,be] at this;exact this
theorem OT (ns:List Int): ∃a b c d:Int,wJ ns=[a,b,c,d]/\a<=b/\b<=c/\c<=d:=by
 have hl:=Ez ns
 have hr:(wJ ns).Pairwise (· <= ·):=sortI_rises _
 refine o6 (B9 hl) λa r e h=>vA (vx h) λb c d f=> ?_
 rw [e,f] at hr
 rw [dU,dU,dU] at hr
 exact ⟨a,b,c,d,by rw [e,f],hr.1 b (by simp),hr.2.1 c (by simp),hr.2.2.1 d (by simp)⟩
theorem HD (ns:List Int):wJ ns=(ag 4).map λn=>((sU ns n:Nat):Int):=by
 refine gQ (by rw [Ez,ah,be]) λi h1 h2=> ?_
 rw [gO,cX]
 have:=E7 ns _ (dn h1)
 unfold sU
 rw [aA h1]
 exact (eS (Int.le_trans (by decide) this.1)).symm
theorem E6 (v:Int) (i:Nat):0<=xj v i/\xj v i<128:=qU (by decide)
theorem Cf (ns:List Int):pq (sU ns) (rX ns):=by
 refine EK (OT ns) λa b c d e h1 h2 h3=> ?_
 have hm:=E7 ns
 rw [e] at hm
 have ma:=hm a (by simp)
 have md:=hm d (by simp)
 have e0:sU ns 0=a.toNat:=by unfold sU;rw [e];rfl
 have e1:sU ns 1=b.toNat:=by unfold sU;rw [e];rfl
 have e2:sU ns 2=c.toNat:=by unfold sU;rw [e];rfl
 have e3:sU ns 3=d.toNat:=by unfold sU;rw [e];rfl
 refine ⟨by rw [e0];exact fe ma.1,by rw [e0,e1];exact fe h1,by rw [e1,e2];exact fe h2,by rw [e2,e3];exact fe h3,by rw [e3];exact fe md.2,λn z=> ?_,λn z x hx=> ?_⟩
 ·unfold rX xc
  rw [ah,ah,be];rfl
 ·unfold rX xc at hx
  rw [aB] at hx
  obtain ⟨i,_,rfl⟩:=aK.mp hx
  have:=E6 ((C3 ns)[n+1]?.getD 0) i
  exact (mK (.i (.B xA xR) (.b (.t xA) xR)) [] [_]) this.2
theorem Pj (ns:List Int) (n:Nat):(xc (C3 ns) (wJ ns) n).map PV.int=(rX ns n).map λx:Nat=>PV.int x:=by
 unfold rX
 rw [aB]
 refine aV λx hx=> ?_
 refine mX (aK.mp hx) λi z Ub=> ?_;obtain rfl:=Ub
 have:=E6 ((C3 ns)[n+1]?.getD 0) i
 show PV.int _=PV.int (((xj _ _).toNat:Nat):Int)
 rw [eS this.1]
theorem KP (dr:Int): ∀n<4,(AD dr n=97+n\/AD dr n=65+n):=by
 intro n hn
 have h:=qU (a:=(dr.fdiv 54).fdiv ((2:Int)^n)) (m:=2) (by decide)
 have UK: ∀k<2,∀n<4,((uj[k]?.getD [])[n]?.getD 97=97+n\/(uj[k]?.getD [])[n]?.getD 97=65+n):=by decide
 exact UK _ (by exact (mK (.i (.B xA xM) (.b (.t xA) xM)) [] [_]) h.2) n hn
theorem KV (ns:List Int):uJ (sU ns) (wp ns) (uE ns):=by
 have R:=Cf ns
 refine ⟨λn hn=> ?_,λn hn m hm e=> ?_,λn hn=> ?_,λn hn=>⟨(tW R hn).1,(tW R hn).2.1⟩,R.s4⟩
 ·have k: ∀n<4,(97+n)∈sX/\(65+n)∈sX:=by decide
  unfold uE
  rcases KP (tK ns) n hn with h|h
  ·rw [h];exact (k n hn).1
  ·rw [h];exact (k n hn).2
 ·have k: ∀n<4,yk (uE ns n)=97+n:=λn hn=>by
   have k: ∀n<4,yk (97+n)=97+n/\yk (65+n)=97+n:=by decide
   unfold uE
   rcases KP (tK ns) n hn with h|h
   ·rw [h];exact (k n hn).1
   ·rw [h];exact (k n hn).2
  rw [k n hn,k m hm] at e;exact (mK (.i (.e (.a (.c 97) xA) (.a (.c 97) xB)) (.e xA xB)) [_,_]) e
 ·have:=qU (a:=((tK ns:Int).fdiv 864).fdiv ((3:Int)^n)) (m:=3) (by decide)
  exact (mK (.i (.B xA xO) (.b (.t xA) xO)) [] [_]) this.2
theorem F2 (dr d:Int):tn (vp dr d):=by
 have h:=qU (a:=dr.fdiv d) (m:=3) (by decide)
 have UK: ∀k<3,(Bc[k]?.getD [10])=[10]\/(Bc[k]?.getD [10])=[13,10]\/(Bc[k]?.getD [10])=[13]:=by decide
 exact UK _ (by exact (mK (.i (.B xA xO) (.b (.t xA) xO)) [] [_]) h.2)
theorem Ra (ns:List Int):(PV.list ((ag 4).map λn=>.list ((xc (C3 ns) (wJ ns) n).map PV.int)))=uU (rX ns):=by
 congr 1
 exact aV λn z=>by rw [Pj]
theorem Po (ns:List Int):(PV.list ((wJ ns).map PV.int))=PV.list ((ag 4).map λn=>.int (sU ns n:Nat)):=by
 rw [HD ns,aB];rfl
theorem HL (ns:List Int):(tV (wp ns) (uE ns) (rX ns)).length=4/\ ∀q∈tV (wp ns) (uE ns) (rX ns),q.1.length<=3/\q.2.length<=5:=by
 have R:=Cf ns
 have W:=KV ns
 refine ⟨by unfold tV;rw [ah,be],λq hq=> ?_⟩
 refine mX (aK.mp hq) λn hn Ub=> ?_;obtain rfl:=Ub
 have hn:=aL.mp hn
 have h1:=W.dots n hn
 have h2:=R.len n hn
 have h3:=(tW R hn).2.2
 constructor
 ·show (nj _ _).length<=3
  rw [nj,af,a8];exact (mK (.i (.b xA xO) (.l (.a xA xI) xO)) [_]) h1
 ·show (mY _).length<=5
  rw [mY,ah];omega
theorem LJ (ns:List Int):(oI (tV (wp ns) (uE ns) (rX ns))).length<=1000:=by
 obtain ⟨h4,hq⟩:=HL ns
 rw [vL,pU,af]
 have:=wk (f:=λx:List Nat=>x++[13,10]) (k:=12) (l:=(tV (wp ns) (uE ns) (rX ns)).map λq:List Nat×List Nat=>q.1++58::32::q.2) (λx hx=>by
  refine mX (aK.mp hx) λq hm Ub=> ?_;obtain rfl:=Ub
  have:=hq q hm
  rw [af,af];exact (mK (.i (.l xA xO) (.i (.l xB xN) (.l (.a (.a xA (.a (.a xB xI) xI)) xM) (.c 12)))) [_,_]) this.1 this.2)
 rw [ah,h4] at this
 exact (mK (.i (.l xA (.m 12 xK)) (.l (.a xA xM) xQ)) [_]) this
section
variable {w:au} {A:aX} {g:aW} {L:aF}
set_option maxHeartbeats 4000000 in
theorem Rq (G:Gd w 5 (c1 A g L)) (hA:A.frames=aa []) (S2:tg g) (Xo:Bm g) (hT:g.get? 330=aa (ei #[])) {ns:List Int} (hn:ns.length<=63) (hJ: ∀g',m4 (hideAll g [330]) g'->(∃ps,g'.get? 330=aa (ei ps))-> ∀fl h,uD g' [] (.bool ai) fl h->J fl h):
  mZ mJ w (c1 A g L).env (c1 A g L).A (In (c1 A g L) [("script",.list (ns.map PV.int))] [])
   [nB nI 0,nB nI 1,nB nI 2,nB nI 3,nB nI 4,nB nI 5,nB nI 6,nB nI 7,nB nI 8,nB nI 9,nB nI 10,nB nI 11,nB nI 12,nB nI 13,nB nI 14,nB nI 15,nB nI 16,nB nI 17,nB nI 18,nB nI 19,nB nI 20] J:=by
 have R:=Cf ns
 have W:=KV ns
 have VE:=aw
 have hz5:=R.s4
 refine L4 G hn (by walk_at "lk") ?_
 refine Lw G (cs:=C3 ns) (c0:=BS ns) rfl (by walk_at "lk") ?_
 refine ON G (cs:=C3 ns) (sz:=wJ ns) rfl (Ez ns) (λx hx=>by have:=E7 ns x hx;exact (mK (.i (.L xI xA) (.i (.L xA xN) (.a (.L xJ xA) (.L xA xN)))) [] [_]) this.1 this.2) (by walk_at "lk") (by walk_at "lk") ?_
 rw [Ra ns]
 refine Oi G (cs:=C3 ns) (c0:=BS ns) (dr:=(tK ns:Int)) rfl (R3 ns) (by walk_at "lk") ?_
 rw [L1 ns]
 refine Ij G (dr:=(tK ns:Int)) (by walk_at "lk") ?_
 refine Od G (dr:=(tK ns:Int)) (by walk_at "lk") ?_
 refine Ox G (dt:=wp ns) (lt:=uE ns) (rs:=rX ns) W.dots (λn h=>(rt 0 (by decide) _ (W.lets n h)).2.2.2.2.2.2.1) (λn h=>⟨by rw [R.len n h];exact (tW R h).2.2,R.lt n h⟩) (by walk_at "lk") (by walk_at "lk") (by walk_at "lk") ?_
 refine LZ (Gd.sub (m:=3) G (by decide)) (λD hD hX=> ?_) (λD=>.inr ⟨L+11,oi.own' (vi rfl (by rfl) (by rfl))⟩)
 have hD330:D≠330:=λq=>by
  have hD:g.get? D=az:=hD
  rw [q,hT] at hD;exact tJ hD
 refine eA (HL ns) λhb4 hbq=> ?_
 refine Ko (l:=tV (wp ns) (uE ns) (rX ns)) hA (G.addOwn D) Xo hT hD330 (by walk_at "lk") ⟨by exact (mK (.i (.e xA xK) (.l xA xP)) [_]) hb4,λq hq=>by have:=hbq q hq;exact (mK (.i (.l xA xO) (.i (.l xB xN) (.a (.l xA xP) (.l xB xP)))) [_,_]) this.1 this.2⟩ (LJ ns) (by walk_at "lk") λg' hk hK2 GW=> ?_
 refine I6 GW (by walk_at "lk") ?_
 refine tj (J':=J) (J:=uD g' [] (.bool ai)) ?_ (λz h=>h) (hJ g' hk hK2)
 generalize hκ:([("struck",.inst D),("dots",.list ((ag 4).map λn=>.int (wp ns n:Nat))),("letters",.list ((ag 4).map λn=>.str (S [uE ns n]))),("mark",.str (S (vp (tK ns:Int) 18))),("eol",.str (S (vp (tK ns:Int) 6))),("width",.int ((12+tK ns % 6:Nat):Int)),("dress",.int (tK ns:Int)),("rows",uU (rX ns)),("sizes",.list ((wJ ns).map PV.int))]:m7)=κ
 have k1:κ.lookup ("struck":Str)=aa (.inst D):=by subst hκ;walk_at "lk"
 have k2:κ.lookup ("dots":Str)=aa (.list ((ag 4).map λn=>.int (wp ns n:Nat))):=by subst hκ;walk_at "lk"
 have k3:κ.lookup ("letters":Str)=aa (.list ((ag 4).map λn=>.str (S [uE ns n]))):=by subst hκ;walk_at "lk"
 have k4:κ.lookup ("mark":Str)=aa (.str (S (vp (tK ns:Int) 18))):=by subst hκ;walk_at "lk"
 have k5:κ.lookup ("eol":Str)=aa (.str (S (vp (tK ns:Int) 6))):=by subst hκ;walk_at "lk"
 have k6:κ.lookup ("width":Str)=aa (.int ((12+tK ns % 6:Nat):Int)):=by subst hκ;walk_at "lk"
 have k7:κ.lookup ("dress":Str)=aa (.int (tK ns:Int)):=by subst hκ;walk_at "lk"
 have k8:κ.lookup ("rows":Str)=aa (uU (rX ns)):=by subst hκ;walk_at "lk"
 have k9:κ.lookup ("sizes":Str)=aa (.list ((wJ ns).map PV.int)):=by subst hκ;walk_at "lk"
 have kA:Ap κ ("told"::"due"::LN):=by
  subst hκ
  repeat refine Ap.cons ?_ (by decide+kernel)
  exact Ap.nil
 have kN:Ap κ LN:=kA.mono (by decide+kernel)
 refine pf (σ':=("book",.hdr (hp ((wI (wp ns) (uE ns) (rX ns)).map oo)))::κ) (by rw [Jp];subst hκ;walk_at "has") ?_
 refine MS GW ((tg.hide S2).keep hk) (e0:=wI (wp ns) (uE ns) (rX ns)) (dr:=tK ns) (H:=sU ns 3) (W:=12+tK ns % 6) (Rv R W) hz5 kN k1 k7 (F2 _ _) (F2 _ _) (by exact mK (.l (.c 12) (.a (.c 12) (.e xA 6))) [_]) (by exact mK (.l (.a (.c 12) (.e xA 6)) xP) [_]) k6 k5 k4 (sz:=wJ ns) (by rw [HD];exact oZ (by decide)) k9 ?_
 rw [Q9 R,Q3 R]
 refine OR GW (rs:=rX ns) (λn h=>by rw [R.len n h];have:=tW R h;omega) (by walk_at "lk") ?_
 have kB:Ap (("told",vI (rX ns))::("book",.hdr (hp (([]:List En).map oo)))::κ) ("due"::LD):=(((kA.mono (xs:="book"::"told"::"due"::LD) (by decide+kernel)).cons (by decide+kernel)).cons (by decide+kernel))
 refine Q1 GW (κ:=("told",vI (rX ns))::("book",.hdr (hp (([]:List En).map oo)))::κ) (sz:=sU ns) (dt:=wp ns) (lt:=uE ns) (rs:=rX ns) (pl:=wV (sU ns) (rX ns)) (H:=sU ns 3) hz5 W.dots rfl (λn hn h hh=>⟨Li R hn hh,Ie _ _⟩) (kB.mono (by decide+kernel)) (by rw [<-Po];clear kB;walk_at "lk") (by walk_at "lk") (by walk_at "lk") (by walk_at "lk") ?_
 have kC:Ap (("due",.list (hp (qF (sU ns) (wp ns) (uE ns) (wV (sU ns) (rX ns)))))::("told",vI (rX ns))::("book",.hdr (hp (([]:List En).map oo)))::κ) LE:=((((kA.mono (xs:="book"::"told"::"due"::LE) (by decide+kernel)).cons (by decide+kernel)).cons (by decide+kernel)).cons (by decide+kernel))
 refine Kc GW (κ:=("due",.list (hp (qF (sU ns) (wp ns) (uE ns) (wV (sU ns) (rX ns)))))::("told",vI (rX ns))::("book",.hdr (hp (([]:List En).map oo)))::κ) (rs:=rX ns) W (λn z h z=>Ie n h) (λn hn=>Hj R hn) (F2 _ _) kC (by walk_at "lk") (by walk_at "lk") (by walk_at "lk") (by walk_at "lk") (by walk_at "lk") (by walk_at "lk") ?_
 refine Ly GW (W:=12+tK ns % 6) (by exact mK (.l (.c 12) (.a (.c 12) (.e xA 6))) [_]) (by walk_at "lk") (by walk_at "lk") (by walk_at "lk") ?_
 refine Mk GW (Q:=qF (sU ns) (wp ns) (uE ns) (wV (sU ns) (rX ns))) (by have:=EH (pl:=wV (sU ns) (rX ns)) W;omega) (E1 W λn z h z=>Ie n h) (.head _) (by walk_at "lk") (by walk_at "lk") ?_
 exact Om GW (by walk_at "lk") (by walk_at "lk") (by walk_at "lk")
end
section
variable {w:au}
theorem Gb:pG 6 callerA:=⟨rfl,by decide+kernel,by decide+kernel⟩
theorem Pd:nI=[nB nI 0,nB nI 1,nB nI 2,nB nI 3,nB nI 4,nB nI 5,nB nI 6,nB nI 7,nB nI 8,nB nI 9,nB nI 10,nB nI 11,nB nI 12,nB nI 13,nB nI 14,nB nI 15,nB nI 16,nB nI 17,nB nI 18,nB nI 19,nB nI 20]:=by kernel_rfl
theorem Mr {ns:List Int} (B:ox w.params s.heap) (S2:tg s.heap) (Xo:Bm s.heap) (hT:s.heap.get? 330=aa (ei #[])) (hn:ns.length<=63) (r:mV [] s.heap (.list (ns.map PV.int)) v):
  aC (aI mJ w) callerA (ft (.ref 333) [v]) (λv' s'=>v'= .bool ai/\nK s s'/\ ∃g',m4 (hideAll s.heap [330]) g'/\(∃ps,g'.get? 330=aa (ei ps))/\m4 g' s'.heap) (λz z=>False) s:=by
 refine eo (yz (M:=[]) (X:=[]) (ns:=["script"]) (qs:=[.list (ns.map PV.int)]) (Λ:=[]) (B.defAt (RC _)) (by decide+kernel) (λz h=>nomatch h) (λz h=>nomatch h) (λz h=>nomatch h) (xw (ps:=[.list (ns.map PV.int)]) (mR.cons r mR.nil) λvs e=> ?hb) (λz h=>nomatch h) (wh (by kernel_rfl)) λL Ud k z hL Ui=> ?_)
 case hb=>
  refine eE (vr e) λz Ub=> ?_;obtain rfl:=Ub;kernel_rfl!
 have G:Gd w 5 (c1 callerA s.heap L):=⟨B,(λz h=>nomatch h),Gb.deeper _,(by rfl),rfl,rfl⟩
 have W:=Rq (w:=w) (A:=callerA) (g:=s.heap) (L:=L) G rfl S2 Xo hT hn (J:=λfl h=> ∃g',m4 (hideAll s.heap [330]) g'/\(∃ps,g'.get? 330=aa (ei ps))/\uD g' [] (.bool ai) fl h) (λg' hk hp fl h hr=>⟨g',hk,hp,hr⟩)
 rw [<-Pd] at W
 refine ab (W.run Ud Ui) (λfl s' ⟨x,g',hk,hp,kk,rr⟩=> ?_) λz z e=>e.elim
 exact ⟨rr,(nK.of k).trans x,g',hk,hp,kk⟩
end
end
section
open PySem.Calls PyProof.Rows
noncomputable def bE:List eh:=behindTheImports mJ
noncomputable def EE:Env:={scope:=mJ.main.scope,locals:=mainNs,globals:=mainNs,cells:=[],code:=.ref 30,frame:=aa 31}
def cE:Code:=.body bE EE
noncomputable def sT (t:BT) (n k:Nat) (os:cD):je:=⟨t,n,{},#[],{},k,os⟩
noncomputable def sH (h:aW) (k:Nat) (os:cD):aq:=⟨h,#[],{},k,os⟩
noncomputable def cs (s:List String):List Nat:=s.flatMap λx=>x.toList.map Char.toNat
def Na (P:aQ) (m v:ay) (k n:Nat):Obj:=oD (en P "__name__" 165 m::((gE P).take 20++en P "c" 1346 v::((gE P).drop 20).take k)).toArray n
noncomputable def tl:List (Nat×Nat):=[(2,37),(21,60),(23,67),(25,75),(34,88),(72,96),(106,103),(129,110),(138,117),(147,124),(166,131),(191,148),(197,171),(206,178),(289,303),(295,308),(309,315),(313,320),(326,327),(332,332)]
def tb (k:Nat) (l:List (Nat×Nat)):Obj:=oN (l.flatMap λq=>[.int (.ofNat q.1) 0,.int (.ofNat k) 0,.ref q.2])
def oM (s:String) (t ln a k:Nat):Obj:=IJ (sS s t) (sS s (t+1)) t ln 0 0 0 a (t+3) k false [.none,.none,.none]
noncomputable def oR (a b:Nat) (m:ay):Obj:=⟨.type "frame",az,.plain,#[aa (.ref a),aa (.ref 3),aa (.ref b),az,aa m,az,aa (.ref 0)]⟩
def eB (P:aQ) (f:String->ay) (t:Nat) (l:List String):List jg:=l.zipIdx.map λq=>en P q.1 (t+q.2) (f q.1)
def rP (s:String) (t fl a:Nat) (l:List Nat):List Obj:=[oL (l.zipIdx.map λq=>.int (.ofNat q.1) (t+2+q.2)).toArray,oD #[] 0,oT #[.none],pT l,pP s t fl a l.length]
noncomputable def uG:BT->List (Nat×Obj)->BT
 |t,[]=>t
 |t,(i,o)::l=>uG (t.set i λz=>o) l
noncomputable def uz:BT->Nat->List Obj->BT
 |t,_,[]=>t
 |t,n,o::l=>uz (t.ins n o) (n+1) l
def TZ {α:Type} (f:FF α):α:=f (nV 1) "_wall" mA .none 37 282 2 1 0 3 (aa ["k"])
def Jl (P:aQ):Obj:=gD P (sS "__main__" 164) 9 10
def RP (P:aQ):Obj:=gD P (sS "__main__" 164) 12 13
def RU (P:aQ):Obj:=gD P (sS "__main__" 164) 13 14
def QZ (P:aQ):Obj:=gD P (sS "cpy313.email.quoprimime" 1336) 20 21
def Rh (P:aQ):Obj:=Na P (sS "cpy313.email.quoprimime" 1336) (.int 57 1543) 0 22
def QN (P:aQ):Obj:=Na P (sS "cpy313.email.quoprimime" 1336) (.int 9 1832) 0 22
def PN (P:aQ):Obj:=Na P (sS "cpy313.email.quoprimime" 1336) (.int 9 1832) 4 26
def Rk (P:aQ):Obj:=Na P (sS "cpy313.email.quoprimime" 1336) (.int 10 1864) 4 26
def Qd (P:aQ):Obj:=gD P (sS "cpy313.colorsys" 1900) 32 35
def Rw (P:aQ):Obj:=gD P (sS "cpy313.wsgiref.headers" 2054) 42 45
def PS (P:aQ):Obj:=gD P (sS "cpy313.wsgiref.headers" 2054) 43 46
def Q6 (P:aQ):Obj:=gD P (sS "law_wv0059_01" 2317) 49 52
def HY (P:aQ):Obj:=⟨.none,az,(.dict #[en P "imp\x6frt.loaded._sre" 183 (.bool ai),en P "class._frozen_importlib.BuiltinImporter" 185 (.ref 14),en P "watched.imp\x6frt" 206 (.ref 18),en P "class._frozen_importlib.ModuleSpec" 216 (.ref 22),en P "sys.modules.booked-epoch" 245 (.int 3 0),en P "imp\x6frt.later-laid._sre" 270 (.bool ai),en P "watched.library" 272 (.ref 27),en P "watched.library-objects" 0 (sS "\x0c" 0),en P "watched.library-deep._sre" 273 (sS "\x04\x00\x00\x0b\x04\x00\x00\x0b\x04\x00\x00\x03\x04\x00\x00\x0b\x08\x04dict\x02" 0)] 9),#[]⟩
noncomputable def D8:Obj:=⟨(.type "module"),(aa 0),.plain,#[]⟩
def L0:Obj:=oN []
def O3:Obj:=oQ (vd (Ar 256) yy 1347) 0
def Ou:Obj:=ND
def OM:Obj:=Nr
def Oy:Obj:=NT
def k0 (P:aQ):Obj:=oD ([en P "__name__" 1 (sS "builtins" 160),en P "__doc__" 2 (.builtin "builtins.__doc__:str#opaque"),en P "__package__" 3 (.builtin "builtins.__package__:str#opaque"),en P "__loader__" 4 (.builtin "builtins.__loader__:shared#opaque"),en P "__spec__" 5 (.builtin "builtins.__spec__#opaque")]++eB P .builtin 6 ["__build_class__","__import__","abs","all","any","ascii","bin","breakpoint","callable","chr","compile","delattr","dir","divmod","eval","exec","format","getattr","globals","hasattr","hash","hex","id","input","isinstance","issubclass","iter","aiter","len","locals","max","min","next","anext","oct","ord","pow","print","repr","round","setattr","sorted","sum","vars"]++[en P "None" 50 .none,en P "Ellipsis" 51 .ellipsis,en P "NotImplemented" 52 .notImplemented,en P "False" 53 (.bool false),en P "True" 54 (.bool ai)]++eB P .type 55 ["bool","memoryview","bytearray","bytes","classmethod","complex","dict","enumerate","filter","float","frozenset","property","int","list","map","object","range","reversed","set","slice","staticmethod","str","super","tuple","type","zip"]++[en P "__debug__" 81 (.bool ai)]++eB P .type 82 ["BaseException","BaseExceptionGroup","Exception","GeneratorExit","KeyboardInterrupt","SystemExit","ArithmeticError","AssertionError","AttributeError","BufferError","EOFError","ImportError","LookupError","MemoryError","NameError","OSError","ReferenceError","RuntimeError","StopAsyncIteration","StopIteration","SyntaxError","SystemError","TypeError","ValueError","Warning","FloatingPointError","OverflowError","ZeroDivisionError","BytesWarning","DeprecationWarning","EncodingWarning","FutureWarning","ImportWarning","PendingDeprecationWarning","ResourceWarning","RuntimeWarning","SyntaxWarning","UnicodeWarning","UserWarning","BlockingIOError","ChildProcessError","ConnectionError","FileExistsError","FileNotFoundError","InterruptedError","IsADirectoryError","NotADirectoryError","PermissionError","ProcessLookupError","TimeoutError","IndentationError","_IncompleteInputError","IndexError","KeyError","ModuleNotFoundError","NotImplementedError","PythonFinalizationError","RecursionError","UnboundLocalError","UnicodeError","BrokenPipeError","ConnectionAbortedError","ConnectionRefusedError","ConnectionResetError","TabError","UnicodeDecodeError","UnicodeEncodeError","UnicodeTranslateError","ExceptionGroup"]++[en P "EnvironmentError" 151 (.type "OSError"),en P "IOError" 152 (.type "OSError"),en P "open" 153 (.builtin "open"),en P "quit" 154 (.builtin "builtins.quit#opaque"),en P "exit" 155 (.builtin "builtins.exit#opaque"),en P "copyright" 156 (.builtin "builtins.copyright#opaque"),en P "credits" 157 (.builtin "builtins.credits#opaque"),en P "license" 158 (.builtin "builtins.license#opaque"),en P "help" 159 (.builtin "builtins.help#opaque")]).toArray 159
def k1 (P:aQ):Obj:=oD #[en P "builtins" 162 (.ref 4),en P "__main__" 163 (.ref 5),en P "_sre" 244 (.ref 12)] 3
noncomputable def k5:Obj:=⟨(.type "module"),(aa 3),.plain,#[]⟩
def k6:Obj:=oD #[] 0
def k7:Obj:=oT #[]
def k8:Obj:=oN []
def k9:Obj:=oM "<module>" 176 1 7 175
def k10:Obj:=oR 9 3 (sS "__main__" 164)
def k11 (P:aQ):Obj:=oD #[en P "__name__" 247 (sS "_sre" 246),en P "__doc__" 248 .none,en P "__package__" 250 (sS "" 249),en P "__loader__" 251 (.builtin "off-the-table:_sre.__loader__:shared#opaque"),en P "__spec__" 252 (.builtin "off-the-table:_sre.__spec__:shared#opaque"),en P "compile" 253 (.builtin "_sre.compile"),en P "template" 254 (.builtin "off-the-table:_sre.template:shared#opaque"),en P "getcodesize" 255 (.builtin "off-the-table:_sre.getcodesize:shared#opaque"),en P "ascii_iscased" 256 (.builtin "off-the-table:_sre.ascii_iscased:shared#opaque"),en P "unicode_iscased" 257 (.builtin "off-the-table:_sre.unicode_iscased:shared#opaque"),en P "ascii_tolower" 258 (.builtin "off-the-table:_sre.ascii_tolower:shared#opaque"),en P "unicode_tolower" 259 (.builtin "off-the-table:_sre.unicode_tolower:shared#opaque"),en P "MAGIC" 261 (.int 20230612 260),en P "CODESIZE" 263 (.int 4 262),en P "MAXREPEAT" 265 (.int 4294967295 264),en P "MAXGROUPS" 267 (.int 1073741823 266),en P "copyright" 269 (sS " SRE 2.2.2 Copyright (c) 1997-2002 by Secret Labs AB " 268)] 17
noncomputable def k12:Obj:=⟨(.type "module"),(aa 11),.plain,#[]⟩
def SN (P:aQ):Obj:=oD #[en P "__module__" 189 (sS "_frozen_importlib" 186),en P "__firstlineno__" 190 (.int 971 187),en P "__doc__" 191 (.builtin "_frozen_importlib.BuiltinImporter.__doc__:str#opaque"),en P "_ORIGIN" 192 (sS "built-in" 188),en P "find_spec" 193 (.builtin "_frozen_importlib.BuiltinImporter.find_spec#opaque"),en P "create_module" 194 (.builtin "_frozen_importlib.BuiltinImporter.create_module#opaque"),en P "exec_module" 195 (.builtin "_frozen_importlib.BuiltinImporter.exec_module#opaque"),en P "get_code" 196 (.builtin "_frozen_importlib.BuiltinImporter.get_code#opaque"),en P "get_source" 197 (.builtin "_frozen_importlib.BuiltinImporter.get_source#opaque"),en P "is_package" 198 (.builtin "_frozen_importlib.BuiltinImporter.is_package#opaque"),en P "load_module" 199 (.builtin "_frozen_importlib.BuiltinImporter.load_module#opaque"),en P "__static_attributes__" 200 (.ref 15),en P "__dict__" 202 (.ref 16),en P "__weakref__" 204 (.ref 17)] 14
def SH:Obj:=oK "BuiltinImporter" 14 13 #[]
def SF:Obj:=oT #[]
def SO:Obj:=oF "getset_descriptor" [(sS "__dict__" 201),(.ref 14),(.builtin "function.__dict__"),(.builtin "function.__dict__#set")]
def Sz:Obj:=oF "getset_descriptor" [(sS "__weakref__" 203),(.ref 14),(.builtin "ExceptionGroup.__weakref__"),.none]
def SM:Obj:=⟨.none,az,(.seq #[(.int 13 0),(.str (S (cs ["\x06½\n__module_","_\x06º\x11_frozen_","importlib\x06¾\x0f","__firstlinen","o__\x04»\x00ϋ\x06¿\x07__","doc__\t4_froz","en_importlib",".BuiltinImpo","rter.__doc__",":str#opaque\x06","À\x07_ORIGIN\x06¼\x08","built-in\x06Á\tf","ind_spec\t2_f","rozen_import","lib.BuiltinI","mporter.find","_spec#opaque","\x06Â\rcreate_mo","dule\t6_froze","n_importlib.","BuiltinImpor","ter.create_m","odule#opaque","\x06Ã\x0bexec_modu","le\t4_frozen_","importlib.Bu","iltinImporte","r.exec_modul","e#opaque\x06Ä\x08g","et_code\t1_fr","ozen_importl","ib.BuiltinIm","porter.get_c","ode#opaque\x06Å","\nget_source\t","3_frozen_imp","ortlib.Built","inImporter.g","et_source#op","aque\x06Æ\nis_pa","ckage\t3_froz","en_importlib",".BuiltinImpo","rter.is_pack","age#opaque\x06Ç","\x0bload_module","\t4_frozen_im","portlib.Buil","tinImporter.","load_module#","opaque\x06È\x15__s","tatic_attrib","utes__\x04\x00\x00\x0f\x06Ê","\x08__dict__\x04\x00\x00","\x10\x06Ì\x0b__weakre","f__\x04\x00\x00\x11"])) 0),(.bool ai),(.bool ai),(sS "" 205),(.int 21 0),(.str (S (cs ["\x06ã\n__module_","_\x06Ù\x11_frozen_","importlib\x06ä\x0f","__firstlinen","o__\x04Ú\x00Ȳ\x06å\x07__","doc__\t/_froz","en_importlib",".ModuleSpec.","__doc__:str#","opaque\x06æ\x08__i","nit__\t,_froz","en_importlib",".ModuleSpec.","__init__#opa","que\x06ç\x08__repr","__\t,_frozen_","importlib.Mo","duleSpec.__r","epr__#opaque","\x06è\x06__eq__\t*_","frozen_impor","tlib.ModuleS","pec.__eq__#o","paque\x06é\x06cach","ed\t*_frozen_","importlib.Mo","duleSpec.cac","hed#opaque\x06ê","\x06parent\t*_fr","ozen_importl","ib.ModuleSpe","c.parent#opa","que\x06ë\x0chas_lo","cation\t0_fro","zen_importli","b.ModuleSpec",".has_locatio","n#opaque\x06ì\x15_","_static_attr","ibutes__\x04\x00\x00\x17","\x06î\x08__dict__\x04","\x00\x00\x18\x06ð\x0b__weak","ref__\x04\x00\x00\x19\x06ñ\x08","__hash__\x00"])) 0),(.bool ai),(.bool ai),(sS "" 242)] 1),#[]⟩
def SQ:Obj:=oL #[]
def SD (P:aQ):Obj:=oD #[en P "name" 208 (sS "_sre" 207),en P "loader" 209 (.ref 14),en P "origin" 210 (sS "built-in" 184),en P "loader_state" 211 .none,en P "submodule_search_locations" 212 .none,en P "_uninitialized_submodules" 213 (.ref 19),en P "_set_fileattr" 214 (.bool false),en P "_cached" 215 .none,en P "_initializing" 243 (.bool false)] 9
def Sx (P:aQ):Obj:=oD #[en P "__module__" 227 (sS "_frozen_importlib" 217),en P "__firstlineno__" 228 (.int 562 218),en P "__doc__" 229 (.builtin "_frozen_importlib.ModuleSpec.__doc__:str#opaque"),en P "__init__" 230 (.builtin "_frozen_importlib.ModuleSpec.__init__#opaque"),en P "__repr__" 231 (.builtin "_frozen_importlib.ModuleSpec.__repr__#opaque"),en P "__eq__" 232 (.builtin "_frozen_importlib.ModuleSpec.__eq__#opaque"),en P "cached" 233 (.builtin "_frozen_importlib.ModuleSpec.cached#opaque"),en P "parent" 234 (.builtin "_frozen_importlib.ModuleSpec.parent#opaque"),en P "has_location" 235 (.builtin "_frozen_importlib.ModuleSpec.has_location#opaque"),en P "__static_attributes__" 236 (.ref 23),en P "__dict__" 238 (.ref 24),en P "__weakref__" 240 (.ref 25),en P "__hash__" 241 .none] 13
def SB:Obj:=oK "ModuleSpec" 22 21 #[]
def Sv:Obj:=oT (nS 219 ["_cached","_set_fileattr","_uninitialized_submodules","loader","loader_state","name","origin","submodule_search_locations"]).toArray
def SJ:Obj:=oF "getset_descriptor" [(sS "__dict__" 237),(.ref 22),(.builtin "function.__dict__"),(.builtin "function.__dict__#set")]
def SL:Obj:=oF "getset_descriptor" [(sS "__weakref__" 239),(.ref 22),(.builtin "ExceptionGroup.__weakref__"),.none]
noncomputable def SK:Obj:=⟨(.ref 22),(aa 20),.plain,#[]⟩
def Sy:Obj:=⟨.none,az,(.seq #[(.int 11 0),(.str (S (cs ["\x06÷\x08__name__\x06","ö\x04_sre\x06ø\x07__d","oc__\x00\x06ú\x0b__pa","ckage__\x06ù\x00\x06û","\n__loader__\x04","\x00\x00\x0e\x06ü\x08__spec","__\x04\x00\x00\x1a\x06ý\x07com","pile\t\x0c_sre.c","ompile\x06þ\x08tem","plate\t\r_sre.","template\x06ÿ\x0bg","etcodesize\t\x10","_sre.getcode","size\x06Ā\rascii","_iscased\t\x12_s","re.ascii_isc","ased\x06ā\x0funico","de_iscased\t\x14","_sre.unicode","_iscased\x06Ă\ra","scii_tolower","\t\x12_sre.ascii","_tolower\x06ă\x0fu","nicode_tolow","er\t\x14_sre.uni","code_tolower","\x06ą\x05MAGIC\x04Ą\x00"]++[20230612]++cs ["\x06ć\x08CODESIZE\x04","Ć\x00\x04\x06ĉ\tMAXREP","EAT\x04Ĉ\x00"]++[4294967295]++cs ["\x06ċ\tMAXGROUPS","\x04Ċ\x00"]++[1073741823]++cs ["\x06č\tcopyright","\x06Č5 SRE 2.2.","2 Copyright ","(c) 1997-200","2 by Secret ","Labs AB "])) 0),(.bool ai),(.bool false),(sS "_sre" 271)] 0),#[]⟩
def a0 (P:aQ):List Obj:=[k0 P,k1 P,HY P]
def a4 (P:aQ):List Obj:=[D8,k5,k6,k7,k8,k9,k10,k11 P,k12,SN P,SH,SF,SO,Sz,SM,SQ,SD P,Sx P,SB,Sv,SJ,SL,SK,Sy]
def Rs:List Obj:=[oM "<module>" 277 1 28 276,oR 30 3 (sS "__main__" 164)]
def CG (P:aQ):BT:=uz .nil 0 (a0 P++Jl P::(a4 P++oT #[]::oN []::Rs))
def PR (P:aQ):List Obj:=TZ qz
def Ip (P:aQ):BT:=uz (uG (CG P) [(3,RP P),(29,tb 0 (tl.take 1))]) 32 (PR P)
def Q0 (P:aQ):List Obj:=[oF "range" [(.int 0 294),(.int 256 293),(.int 1 295)],oF "range_iterator" [(.int 256 0),(.int 0 0),(.int 1 0)],Rj,oD #[] 2,oT #[],oF "StopIteration" [(.ref 43),.none,.none,.none,(.bool false),.none]]
def H2 (P:aQ):BT:=uz (uG (Ip P) [(3,RU P)]) 39 (Q0 P)
def RT (P:aQ):List Obj:=[oF "slice" [.none,.none,.none],oQ (Ar 256) 0,oF "slice" [.none,.none,.none],oQ (Ar 256) 0]
def H8 (P:aQ):BT:=uz (uG (H2 P) [(3,QZ P)]) 45 (RT P)
def M7 (P:aQ):List Obj:=[oF "bytes_iterator" [.none,(.int 67 0)],oT #[],oF "StopIteration" [(.ref 50),.none,.none,.none,(.bool false),.none]]
def HS (P:aQ):BT:=uz (uG (H8 P) [(3,Rh P),(46,O3)]) 49 (M7 P)
def I2 (P:aQ):BT:=uz (uG (HS P) [(46,Ou)]) 52 []
def Ng (P:aQ):List Obj:=[oF "bytes_iterator" [.none,(.int 95 0)],oT #[],oF "StopIteration" [(.ref 53),.none,.none,.none,(.bool false),.none]]
def Ih (P:aQ):BT:=uz (uG (I2 P) [(3,QN P),(48,OM)]) 52 (Ng P)
def Nx (P:aQ):List Obj:=Qo qz++(PP qz++([Nf]++(QO qz++([oF "slice" [.none,.none,.none]]))))
def IZ (P:aQ):BT:=uz (uG (Ih P) [(3,PN P),(29,tb 0 (tl.take 4))]) 55 (Nx P++[Nr])
def NJ (P:aQ):List Obj:=[oF "bytes_iterator" [.none,(.int 2 0)],oT #[],oF "StopIteration" [(.ref 80),.none,.none,.none,(.bool false),.none]]
def IS (P:aQ):BT:=uz (uG (IZ P) [(3,Rk P),(78,Oy)]) 79 (NJ P)
def NU (P:aQ):List Obj:=[KA]++(QP qz++([No]++(Qk qz++(K6 qz++(K0 qz++(MZ qz))))))
def IU (P:aQ):BT:=uz (uG (IS P) [(3,Qd P),(29,tb 0 (tl.take 9))]) 82 (NU P)
def M8 (P:aQ):List Obj:=MN qz++(Lk qz++(rP "(?m)^\\." 1988 40 136 PF++(rP "(?:\\r\\n|\\n|\\r(?!\\n))" 2004 32 141 PE++(LR qz++(rP "[ \\(\\)<>@,;:\\\\\"/\\[\\]\\?=]" 2057 32 153 S4++(rP "[\\x00-\\x1F\\x7F]" 2091 32 158 Qq++(rP "[\\x00-\\x08\\x0A-\\x1F\\x7F]" 2117 32 163 QY++([oT #[.none,(.int 1 2150)]]++(SW qz)))))))))
def HT (P:aQ):BT:=uz (uG (IU P) [(3,Rw P),(29,tb 0 (tl.take 13))]) 119 (M8 P)
def NV (P:aQ):List Obj:=[oT #[],oF "builtin_function_or_method" [(.builtin "type.__prepare__"),(.type "type")],oD (en P "__module__" 2167 (sS "cpy313.wsgiref.headers" 2054)::en P "__qualname__" 2169 (sS "Headers" 2168)::(SE P).take 19).toArray 21,oT #[],tb 4 [(208,186),(218,193),(226,200),(229,207),(233,212),(237,219),(240,226),(243,231),(247,239),(254,244),(257,249),(260,256),(263,263),(266,268),(269,275),(272,282),(275,289)],oM "Headers" 2162 206 176 276,oR 178 175 (sS "cpy313.wsgiref.headers" 2054),HW]++(MX qz++(MU qz++(S9 qz++(S1 qz++(Ta qz++(Tw qz++(Tt qz++(LV qz++([LY]++(Lg qz++(Mz qz++(MI qz++(LL qz++(Tg qz++(K2 qz++(Th qz++(Tl qz++(LP qz++([oT #[(sS "_headers" 2308)],Qe P,QA,oF "getset_descriptor" [(sS "__dict__" 2310),(.ref 293),(.builtin "function.__dict__"),(.builtin "function.__dict__#set")],oF "getset_descriptor" [(sS "__weakref__" 2312),(.ref 293),(.builtin "ExceptionGroup.__weakref__"),.none],oF "super" [(.ref 293),(.ref 293),(.ref 293)],oF "builtin_function_or_method" [(.builtin "object.__init_subclass__"),(.ref 293)]])))))))))))))))))))
def Jm (P:aQ):BT:=uz (uG (HT P) [(3,PS P),(29,tb 0 (tl.take 14))]) 173 (NV P)
def Nq (P:aQ):List Obj:=LU qz++(M5 qz++(ME qz++(LX qz++(M0 qz++(D9 qz)))))
def M6 (P:aQ):BT:=uz (uG (Jm P) [(3,Q6 P),(29,tb 0 (tl.take 20))]) 298 (Nq P)
def y3 (P:aQ):aW:=⟨#[k0 P,k1 P,HY P,Jl P,D8,k5,k6,k7,k8,k9,k10,k11 P,k12,SN P,SH,SF,SO,Sz,SM,SQ,SD P,Sx P,SB,Sv,SJ,SL,SK,Sy],{}⟩
def NR (P:aQ):aW:=⟨(a0 P++Jl P::(a4 P++oT #[]::oN []::Rs)).toArray,{}⟩
def SG:Obj:=oF "slice" [.none,.none,.none]
def qO (P:aQ):aW:=⟨(a0 P++o3 P::(a4 P++oT #[]::tb 0 (tl.take 20)::(Rs++(PR P++(Q0 P++(SG::ND::SG::Nr::(M7 P++(Ng P++(Nx P++NT::(NJ P++(NU P++(M8 P++(NV P++Nq P))))))))))))).toArray,{}⟩
def PX (f:Nat) (l:List Nat) (t:aQ->BT) (a b:Nat) (p:Pos) (t':aQ->BT) (a' b':Nat) (p':Pos) (w:au):Prop:=
 ∀os:cD,jc fW mJ w 28 (aa (.ref 6)) 1 f (sT (t w.params) a b os) (piecesOf (l.map nV) EE cE p [kF ⟨0,0,0,0⟩])=aa (.next,sT (t' w.params) a' b' os,cE,p')
end
local macro_rules | `(tactic| walk_at "hd") => `(tactic| (intro w os; rw [PySem.W.Fast.te10110043849684766642, PySem.W.Fast.te14364793385576792824]; unfold piecesOf; rw [PySem.W.Fast.te12563942051412417395]; kernel_rfl))
section
open PySem.Calls PyProof.Rows
def P0:au->Prop:=PX 447 [1,2,3] CG 32 282 ⟨0,0,0,0⟩ Ip 39 293 ⟨6,0,6,2⟩
theorem q0: ∀w:au,P0 w:=by walk_at "hd"
def P2:au->Prop:=PX 532 [5,6,7,8,9,10,11,12] H2 45 1321 ⟨7,0,7,11⟩ H8 49 1338 ⟨15,0,15,8⟩
theorem q2: ∀w:au,P2 w:=by walk_at "hd"
def P4:au->Prop:=PX 424 [14] HS 52 1546 ⟨16,9,16,74⟩ I2 52 1549 ⟨18,0,18,28⟩
theorem q4: ∀w:au,P4 w:=by walk_at "hd"
def P6:au->Prop:=PX 518 [16,17,18,19] Ih 55 1835 ⟨19,9,19,110⟩ IZ 79 1860 ⟨30,0,30,23⟩
theorem q6: ∀w:au,P6 w:=by walk_at "hd"
def P7:au->Prop:=PX 517 [20] IZ 79 1860 ⟨30,0,30,23⟩ IS 82 1867 ⟨31,9,31,16⟩
theorem T9: ∀w:au,P7 (bm w "special-get-raises" false):=by walk_at "hd"
theorem TK: ∀w:au,P7 (bm w "special-get-raises" ai):=by walk_at "hd"
theorem q7: ∀w:au,P7 w:=(mf "special-get-raises" (P:=λw=>P7 w) T9 TK)
def P8:au->Prop:=PX 648 [21,22,23,24,25,26,27,28,29,30] IS 82 1867 ⟨31,9,31,16⟩ IU 119 1953 ⟨138,0,146,13⟩
theorem q8: ∀w:au,P8 w:=by walk_at "hd"
def P9:au->Prop:=PX 932 [31,32,33,34,35,36,37,38,39,40,41,42] IU 119 1953 ⟨138,0,146,13⟩ HT 173 2160 ⟨197,0,205,20⟩
theorem q9: ∀w:au,P9 w:=by walk_at "hd"
def TQ:au->Prop:=PX 1126 [43] HT 173 2160 ⟨197,0,205,20⟩ Jm 298 2317 ⟨206,0,287,93⟩
theorem TV: ∀w:au,TQ w:=by walk_at "hd"
def TJ:au->Prop:=PX 585 [44,45,46,47,48,49,50] Jm 298 2317 ⟨206,0,287,93⟩ M6 334 2369 ⟨332,0,389,71⟩
theorem TW: ∀w:au,TJ w:=by walk_at "hd"
end
local macro_rules | `(tactic| walk_at "go") => `(tactic| (rw [PySem.W.Fast.te10295753902157049106, PySem.W.Fast.te14364793385576792824]; unfold piecesOf; rw [PySem.W.Fast.te12563942051412417395]; kernel_rfl))
section
open PySem.Calls PyProof.Rows
def P1:au->Prop:=PX 9941 [4] Ip 39 293 ⟨6,0,6,2⟩ H2 45 1321 ⟨7,0,7,11⟩
section
variable {tb:String->Option Builtin} {p:aG} {w:au} {Vj:Nat} {Xk:Option ay} {b:Nat}
theorem Mc {r:gV×je×Code×Pos} (m:Nat): ∀{s:je} {t:Thread},jc tb p w Vj Xk b m s t=aa r-> ∀f,m<=f->jc tb p w Vj Xk b f s t=aa r:=by
 induction m with
 |zero=>intro s t h;exact nE h
 |succ m ih=>
  intro s t h f hf
  cases f with
  |zero=>exact absurd hf (Nat.not_succ_le_zero m)
  |succ f=>
   rw [jc] at h ⊢
   cases he:endAt b t with
   |some x=>rw [he] at h;exact h
   |none=>
    rw [he] at h
    cases hk:stepOk Vj Xk t with
    |false=>rw [hk] at h;exact nE h
    |true=>
     rw [hk] at h
     cases hs:stepT (denote tb) p w s t with
     |none=>rw [hs] at h;exact nE h
     |some x=>rw [hs] at h;exact ih h f (kY hf)
theorem Rd {r:gV×je×Code×Pos} {m:Nat} {x:je×Thread} (q:jc tb p w Vj Xk b m x.1 x.2=aa r) (n:Nat): ∀{s:je} {t:Thread},segGoT tb p w Vj Xk b n s t=aa x-> ∀f,n+m<=f->jc tb p w Vj Xk b f s t=aa r:=by
 induction n with
 |zero=>intro s t h f hf;rw [segGoT] at h;obtain rfl:=am h;exact Mc m q f (kM m▸hf)
 |succ n ih=>
  intro s t h f hf
  cases f with
  |zero=>exact absurd hf (Nat.not_le_of_lt (Nat.add_pos_left (kP n) m))
  |succ f=>
   rw [segGoT] at h
   rw [jc]
   cases he:endAt b t with
   |some x=>rw [he] at h;exact nE h
   |none=>
    rw [he] at h
    cases hk:stepOk Vj Xk t with
    |false=>rw [hk] at h;exact nE h
    |true=>
     rw [hk] at h
     cases hs:stepT (denote tb) p w s t with
     |none=>rw [hs] at h;exact nE h
     |some x=>rw [hs] at h;exact ih h f (kY (Nat.succ_add n m▸hf))
end
def g1 (v w:au) (n:Nat) (os:cD):Option (je×Thread):=segGoT fW mJ v 28 (aa (.ref 6)) 1 n (sT (Ip w.params) 39 293 os) (piecesOf ([4].map nV) EE cE ⟨6,0,6,2⟩ [kF ⟨0,0,0,0⟩])
def x1 (w:au):cD->Option (je×Thread):=g1 (bm (bm w "special-get-raises" false) "comprehension-iter-twice" false) w 90
theorem b1: ∀(w:au) (os:cD),(x1 w os).bind (λx=>jc fW mJ w 28 (aa (.ref 6)) 1 9851 x.1 x.2)=aa (.next,sT (H2 w.params) 45 1321 os,cE,⟨7,0,7,11⟩):=by
 intro w os;unfold x1 g1;rw [PySem.W.Fast.te10110043849684766642];walk_at "go"
def A1 (n:Nat) (w:au):Prop:= ∀os:cD,g1 w w n os=x1 w os
theorem DU {n:Nat} {w:au} (h:A1 n w) (hn:n<=90):P1 w:=λos=>by
 have q:=b1 w os
 cases e:x1 w os with
 |none=>rw [e] at q;exact nE q
 |some x=>rw [e] at q;exact Rd q n ((h os).trans e) _ (Nat.add_le_add_right hn 9851)
theorem S6: ∀w:au,A1 90 (bm (bm w "special-get-raises" false) "comprehension-iter-twice" false):=by intro w os;unfold x1 g1;walk_at "go"
theorem Tc: ∀w:au,A1 90 (bm (bm w "special-get-raises" ai) "comprehension-iter-twice" false):=by intro w os;unfold x1 g1;walk_at "go"
theorem Tf: ∀w:au,A1 80 (bm (bm w "special-get-raises" false) "comprehension-iter-twice" ai):=by intro w os;unfold x1 g1;walk_at "go"
theorem Tj: ∀w:au,A1 80 (bm (bm w "special-get-raises" ai) "comprehension-iter-twice" ai):=by intro w os;unfold x1 g1;walk_at "go"
theorem q1: ∀w:au,P1 w:=(mf "comprehension-iter-twice" (P:=λw=>P1 w) (mf "special-get-raises" (P:=λw=>P1 (bm w "comprehension-iter-twice" false)) (λw=>DU (S6 w) (by decide)) λw=>DU (Tc w) (by decide)) (mf "special-get-raises" (P:=λw=>P1 (bm w "comprehension-iter-twice" ai)) (λw=>DU (Tf w) (by decide)) λw=>DU (Tj w) (by decide)))
def P3:au->Prop:=PX 3476 [13] H8 49 1338 ⟨15,0,15,8⟩ HS 52 1546 ⟨16,9,16,74⟩
theorem TS: ∀w:au,P3 (bm w "special-get-raises" false):=by walk_at "hd"
theorem TP: ∀w:au,P3 (bm w "special-get-raises" ai):=by walk_at "hd"
theorem q3: ∀w:au,P3 w:=(mf "special-get-raises" (P:=λw=>P3 w) TS TP)
def P5:au->Prop:=PX 4702 [15] I2 52 1549 ⟨18,0,18,28⟩ Ih 55 1835 ⟨19,9,19,110⟩
theorem TY: ∀w:au,P5 (bm w "special-get-raises" false):=by walk_at "hd"
theorem T4: ∀w:au,P5 (bm w "special-get-raises" ai):=by walk_at "hd"
theorem q5: ∀w:au,P5 w:=(mf "special-get-raises" (P:=λw=>P5 w) TY T4)
theorem N5: ∀w:au,(fencedOpening fW mJ w 40000).map (λs=>(s.heap,s.gens,s.drawn,s.toks))=aa (y3 w.params,(#[]:Array GenState),({}:Drawn),276):=by
 intro w
 unfold fencedOpening
 rw [PySem.W.Fast.te10274390034422433532,PySem.W.Fast.te14364793385576792824]
 kernel_rfl
theorem Pk: ∀w:au,((y3 w.params).isNs bn&&(#[]:Array GenState).size==0,(y3 w.params).objs.size,(y3 w.params).nsMap bn "__annotations__")=(ai,28,aa (.ref 6)):=by
 intro w
 kernel_rfl
theorem PU: ∀(w:au) (os:cD),topGo fW mJ w 28 (aa (.ref 6)) 12 (sH (y3 w.params) 276 os) (topStub mJ)=aa (sH (NR w.params) 282 os,⟨denote fW cE,cE,⟨0,0,0,0⟩,[kF ⟨0,0,0,0⟩]⟩):=by
 intro w os
 rw [PySem.W.Fast.te15667345088766844465,PySem.W.Fast.te14364793385576792824,PySem.W.Fast.te11892475500146522536]
 kernel_rfl
theorem LO: ∀(w:au) (os:cD),segRun fW mJ w 28 (aa (.ref 6)) 1 100 (sH (NR w.params) 282 os) (blockOf bE EE cE ⟨0,0,0,0⟩ [kF ⟨0,0,0,0⟩])=aa (.next,(sT (CG w.params) 32 282 os).abs,cE,⟨0,0,0,0⟩):=by
 intro w os
 rw [PySem.W.Fast.te14374325043358763698,PySem.W.Fast.te14364793385576792824]
 kernel_rfl
theorem Q5: ∀(w:au) (os:cD),topRun fW mJ w 28 (aa (.ref 6)) 2 (sT (M6 w.params) 334 2369 os).abs ⟨doneF .next,cE,⟨332,0,389,71⟩,[kF ⟨0,0,0,0⟩]⟩=aa (sH (qO w.params) 2369 os):=by
 intro w os
 rw [PySem.W.Fast.te14082659384304107361,PySem.W.Fast.te14364793385576792824]
 kernel_rfl
def qV:aG:={mJ with main:={mJ.main with body:=[nV 0,nV 50]}}
noncomputable def sK:List Str:=[.ofString "_wall",.ofString "CRLF_quoprimime",.ofString "NL",.ofString "_QUOPRI_MAP",.ofString "_QUOPRI_HEADER_MAP",.ofString "_QUOPRI_BODY_MAP",.ofString "ascii_lowercase",.ofString "ascii_uppercase",.ofString "ascii_letters",.ofString "digits",.ofString "hexdigits",.ofString "unquote",.ofString "quote",.ofString "header_encode",.ofString "_QUOPRI_BODY_ENCODE_MAP",.ofString "body_encode",.ofString "decode",.ofString "ONE_THIRD",.ofString "ONE_SIXTH",.ofString "TWO_THIRD",.ofString "rgb_to_hls",.ofString "hls_to_rgb",.ofString "_v",.ofString "rgb_to_hsv",.ofString "hsv_to_rgb",.ofString "_twin_re_1",.ofString "_twin_re_2",.ofString "CRLF_smtplib",.ofString "quotedata",.ofString "tspecials",.ofString "_name_disallowed_re",.ofString "_value_disallowed_re",.ofString "_formatparam",.ofString "Headers",.ofString "_law_hue",.ofString "_law_turned",.ofString "_law_grey",.ofString "_law_told",.ofString "_law_refused"]
theorem Sp:bE=[1,2,3].map nV++([4].map nV++([5,6,7,8,9,10,11,12].map nV++([13].map nV++([14].map nV++([15].map nV++([16,17,18,19].map nV++([20].map nV++([21,22,23,24,25,26,27,28,29,30].map nV++([31,32,33,34,35,36,37,38,39,40,41,42].map nV++([43].map nV++([44,45,46,47,48,49,50].map nV++([])))))))))))):=by kernel_rfl
theorem QX: ∀(w:au) (os:cD),topRun fW mJ w 28 (aa (.ref 6)) (12+(100+(447+(9941+(532+(3476+(424+(4702+(518+(517+(648+(932+(1126+(585+(2))))))))))))))) (sH (y3 w.params) 276 os) (topStub mJ)=aa (sH (qO w.params) 2369 os):=by
 intro w os
 refine go_top (PU w os) (piece_block (b:=bE) (env:=EE) (LO w os) ?_)
 rw [congrArg restOf Sp]
 exact (eC (ez (q0 w os)) (eC (ez (q1 w os)) (eC (ez (q2 w os)) (eC (ez (q3 w os)) (eC (ez (q4 w os)) (eC (ez (q5 w os)) (eC (ez (q6 w os)) (eC (ez (q7 w os)) (eC (ez (q8 w os)) (eC (ez (q9 w os)) (eC (ez (TV w os)) (eC (ez (TW w os)) (piece_nil (Q5 w os))))))))))))))
noncomputable def xT (_:aq):Bool:=ai
noncomputable def PT:List aF:=[3,41,46,48,60,61,67,68,69,75,76,78,82,88,89,90,96,97,103,104,110,111,117,118,124,125,131,132,136,137,141,142,148,149,158,159,163,164,180,186,187,193,194,231,232,233,239,240,244,245,249,250,256,257,268,269,289,290,292,293,303,304,308,309,315,316,320,321,327,328,332,333]
theorem TL: ∀(w:au) (os:cD),staticsOk (importedModules mJ.main.body) (y3 w.params) (qO w.params)=ai:=by
 intro w os
 rw [PySem.W.Fast.te5923862056798008813]
 kernel_rfl
theorem T0: ∀(w:au) (os:cD),namesBound mJ (qO w.params)=ai:=by
 intro w os
 kernel_rfl
theorem TT: ∀(w:au) (os:cD),laidKept (y3 w.params) (qO w.params)=ai:=by
 intro w os
 kernel_rfl
theorem TX: ∀(w:au) (os:cD),seen ((recsOf qV).map (·.name)) (ownsOf qV) [] {(sH (qO w.params) 2369 os) with gens:= #[]}=expectedOf qV:=by
 intro w os
 rw [PySem.W.Fast.te5160383126252970620]
 kernel_rfl
theorem TN: ∀(w:au) (os:cD),(qO w.params).bltView=bltViewBooted:=by
 intro w os
 kernel_rfl
theorem T8: ∀(w:au) (os:cD),(qO w.params).keysOk (looseW qV sK) ((recsOf qV).map (·.name)) ((litsOf qV).map (·.1)) ((clssOf qV (looseW qV sK)).map (·.name))=ai:=by
 intro w os
 rw [PySem.W.Fast.te10880121769531294198]
 kernel_rfl
theorem T5: ∀(w:au) (os:cD),(qO w.params).accountedOkI (importedModules mJ.main.body)=ai:=by
 intro w os
 rw [PySem.W.Fast.te14722251495701143533]
 rw [PySem.W.Fast.te5923862056798008813]
 kernel_rfl
theorem TR: ∀(w:au) (os:cD),Bool.and ((qO w.params).isNs bn) ((qO w.params).isNs dh)=ai:=by
 intro w os
 kernel_rfl
theorem TU: ∀(w:au) (os:cD),tablesOk qV (qO w.params)=ai:=by
 intro w os
 rw [PySem.W.Fast.te10994771534591457954]
 kernel_rfl
theorem TG: ∀(w:au) (os:cD),tabsOk qV (sH (qO w.params) 2369 os)=ai:=by
 intro w os
 rw [PySem.W.Fast.te479339242167458305]
 kernel_rfl
theorem Tm: ∀(w:au) (os:cD),pinSeenD qV (drecsOf qV) (sH (qO w.params) 2369 os)=pinGoodD (drecsOf qV):=by
 intro w os
 rw [PySem.W.Fast.te16090120013241838585]
 kernel_rfl
theorem S5: ∀(w:au) (os:cD),plainSeenE qV (looseW qV sK) (sH (qO w.params) 2369 os)=plainGoodE qV (looseW qV sK):=by
 intro w os
 rw [PySem.W.Fast.te2386780881361962483]
 kernel_rfl
theorem TD: ∀(w:au) (os:cD),plainSeenD qV sK (sH (qO w.params) 2369 os)=plainGoodD qV sK:=by
 intro w os
 rw [PySem.W.Fast.te11698064438423848299]
 kernel_rfl
theorem SY: ∀(w:au) (os:cD),wideSeen qV (sH (qO w.params) 2369 os)=wideGood qV:=by
 intro w os
 rw [PySem.W.Fast.te7317090234206586261]
 kernel_rfl
theorem Ti: ∀(w:au) (os:cD),clsSeenW qV sK (sH (qO w.params) 2369 os)=clsGoodW qV sK:=by
 intro w os
 rw [PySem.W.Fast.te7369524293546568484]
 kernel_rfl
end
section
open PySem.Calls PyProof.Rows
open PySem.Challenge (rw_wv0059_01)
def J3 (P:aQ):Frag:=(2,HY P)::(4,D8)::(330,L0)::KB P
def wf:Hook:=kHook J3 (2::4::330::PT) (λz=>by kernel_rfl)
theorem T2: ∀(w:au) (os:cD),wf.obs (sH (qO w.params) 2369 os)=wf.val w:=by
 intro w os
 kernel_rfl
theorem Qy {P:aQ} {a:aF} {o:Obj} (e:(KB P).lookup a=aa o):(J3 P).lookup a=aa o:=by
 have h2:(KB P).lookup 2=az:=by kernel_rfl
 have h4:(KB P).lookup 4=az:=by kernel_rfl
 have h3:(KB P).lookup 330=az:=by kernel_rfl
 have n2:(a==2)=false:=by
  have:a≠2:=λq=>by rw [q,h2] at e;exact nE e
  simpa using this
 have n4:(a==4)=false:=by
  have:a≠4:=λq=>by rw [q,h4] at e;exact nE e
  simpa using this
 have n3:(a==330)=false:=by
  have:a≠330:=λq=>by rw [q,h3] at e;exact nE e
  simpa using this
 unfold J3
 rw [aD,n2,aD,n4,aD,n3]
 exact e
section
variable {w:au} {h:aW}
theorem N9 (Y:wf.says w h):(KB w.params).In h:=λa o e=>kIn_of Y a o (Qy e)
theorem Rn (Y:wf.says w h):tg h:=by
 have X:(J3 w.params).In h:=kIn_of Y
 have ok:nsOkIn (J3 w.params) iZ=ai:=by kernel_rfl
 exact ⟨_,.of_isNs (kJ X ok),nsMap_none_of_in X ok (by kernel_rfl)⟩
theorem Qv (Y:wf.says w h):Bm h:=⟨D8,kIn_of Y 4 _ (by kernel_rfl),rfl,rfl,rfl⟩
theorem FV (Y:wf.says w h):h.get? 330=aa (ei #[]):=kIn_of Y 330 _ (by kernel_rfl)
theorem N1 {h:aW} {a:aF} {m m':Str->Option ay} (x:h.Ns a m) (y:h.Ns a m') (n:Str):m n=m' n:=by
 refine sa x λo es ep e1 e2 z e3=> ?_
 refine sa y λo' es' ep' q1 q2 z q3=> ?_
 rw [e1] at q1;obtain rfl:=am q1
 rw [e2] at q2;cases q2
 rw [<-e3,<-q3]
end
set_option maxHeartbeats 4000000 in
theorem Ma:LeftO mJ qV sK xT wf.obs wf.val 40000:=by
 refine LeftO.of_pieces N5 Pk (λw os=>QX w os) (by rfl) (λw=>funext λos=> ?_)
 refine eU ?_ (eU ?_ ?_)
 ·show (_&&_&&_&&_)=ai
  rw [TL w os,T0 w os,TT w os]
  rfl
 ·show (_,_,(_&&_&&_&&_&&_&&_&&_),_,_,_,_,_,_)=(_,_,_,_,_,_,_,_,_)
  have e7:=aP.mp (TR w os)
  refine eU (TX w os) (eU (TN w os) (eU ?_ (eU (TG w os) (eU (Tm w os) (eU (S5 w os) (eU (TD w os) (eU (SY w os) (Ti w os))))))))
  refine aP.mpr ⟨aP.mpr ⟨aP.mpr ⟨aP.mpr ⟨aP.mpr ⟨aP.mpr ⟨T8 w os,T5 w os⟩,e7.1⟩,e7.2⟩,TU w os⟩,by kernel_rfl⟩,by kernel_rfl⟩
 ·exact T2 w os
theorem Se:rw_wv0059_01.wellSaid=ai:=by
 rw [PySem.W.Fast.te9446332074065402090]
 kernel_rfl
theorem Kj:(defOf qV "law").isSome=ai:=by kernel_rfl
def Cb:DefRec×List (Str×Expr):=(defOf qV "law").get Kj
theorem QU {R:WRecords} {x:WData} (h:WShape.has R x .int=ai): ∃i,x= .int i:=by
 cases x with
 |int i=>exact ⟨i,rfl⟩
 |_=>exact nomatch (show false=ai from h)
theorem Kg {R:WRecords} {cl:Str->Option aF} {h:aW} {v:ay} {i:Int} {as:List aF} (r:ReadsW R cl h v (.int i) as): ∃t,v= .int i t:=by
 cases r;exact ⟨_,rfl⟩
theorem IQ {R:WRecords} {cl:Str->Option aF} {h:aW} {vs:List ay} {x:WData} {xs:List WData} {as:List aF} (r:ReadsAllW R cl h vs (x::xs) as): ∃v us a b,vs=v::us/\ReadsW R cl h v x a/\ReadsAllW R cl h us xs b:=by
 cases r with
 |cons r rs=>exact ⟨_,_,_,_,rfl,r,rs⟩
theorem JU {R:WRecords} {cl:Str->Option aF} {h:aW} {xs:List WData}: ∀{vs:List ay} {as:List aF},mr R xs .int=ai->ReadsAllW R cl h vs xs as-> ∃ns:List Int,xs=ns.map WData.int/\mR [] h (ns.map PV.int) vs:=by
 induction xs with
 |nil=>intro vs as _ r;cases r;exact ⟨[],rfl,mR.nil⟩
 |cons x xs ih=>
  intro vs as hs r
  refine eA (aP.mp hs) λh1 h2=>eE (QU h1) λi e=> ?_
  subst e
  obtain ⟨v,us,a,b,rfl,r,rs⟩:=IQ r
  refine eE (Kg r) λt e=>mX (ih h2 rs) λns e' q=> ?_
  subst e e'
  exact ⟨i::ns,rfl,mR.cons tU q⟩
theorem OI {args:List WData} (hp:rw_wv0059_01.row.toRowW.claim.pre args=ai): ∃xs,args=[.list xs]/\mr [] xs .int=ai/\xs.length<=63:=by
 obtain ⟨h1,h2⟩:=pre_splitW hp
 obtain ⟨d,r,rfl,h3,h4⟩:=hasAllW_cons h1
 have:=hasAllW_nil h4
 subst this
 have h3:WShape.has [] d (.list .int)=ai:=h3
 cases d with
 |list xs=>
  refine ⟨xs,rfl,(iM _).symm.trans h3,?_⟩
  have h2:(OpenLaw.pre rw_wv0059_01).holds [] {args:=[.list xs]}=ai:=h2
  rcases dI 63 xs.length with h|h
  ·exfalso
   have e:(OpenLaw.pre rw_wv0059_01).holds [] {args:=[.list xs]}=false:=by
    show WTm.holds [] (.and (.not (.lt (.lit (.int 63)) (.len (.arg 0)))) (.lit (.bool ai))) _=false
    have e:less? (.int 63) (.int (xs.length:Int))=aa ai:=by simp [less?,Num.less?,Num.order?];omega
    simp [WTm.holds,WTm.value,e]
   rw [e] at h2;exact oW h2
  ·exact h
 |_=>exact nomatch (show false=ai from h3)
theorem MG {args:List WData}:rw_wv0059_01.row.toRowW.claim.post args (.bool ai) args=ai:=by
 kernel_rfl
theorem Js {w:au} {h:aW} (b:(KB w.params).In h):isCodeTable h 330:=by
 have e:=b 332 (D9 NQ) (by kernel_rfl)
 exact ⟨332,_,_,e,rfl,rfl,by kernel_rfl⟩
theorem OL {h h' g':aW} (ht:isCodeTable h 330) (hT:h.get? 330=aa (ei #[])) (k:m4 (hideAll h [330]) g') (hp: ∃ps,g'.get? 330=aa (ei ps)) (kk:m4 g' h'):OldK h h':=by
 obtain ⟨ps,hp⟩:=hp
 refine ⟨λb o e=> ?_,λb o e=> ?_⟩
 ·by_cases hb:b=330
  ·subst hb
   rw [hT] at e;obtain rfl:=am e
   exact .inr (.inl ⟨ht,rfl,#[],ps,rfl,by rw [kk _ _ hp];simp [ei]⟩)
  ·exact .inl (kk _ _ (k _ _ (sB hb e)))
 ·by_cases hb:b=330
  ·exact ⟨_,hb▸kk _ _ hp⟩
  ·exact ⟨o,kk _ _ (k _ _ (sB hb e))⟩
theorem Td:WalkO qV sK (λz z=>True) wf.says rw_wv0059_01.row.toRowW Cb.1 Cb.2 (λf vs=>PySem.call f vs):=by
 intro w VG Ua mg mb G Y a o pm cd doc dV kV h1 h2 h3 h4 h5 hg args V6 as Wm hlay hrd hwell hlo
 have kb:=N9 Y
 have B:ox w.params Ua.heap:=⟨kb,G.T.nolimit,mb,G.T.b,λx hx=>G.T.builtins x (λq=>by rw [q] at hx;exact absurd hx (by decide+kernel))⟩
 have ha:a=333:=by
  obtain ⟨m,n,e⟩:B6 Ua.heap "law" (.ref 333):=B.glob (by kernel_rfl)
  have:=N1 n G.T.g "law"
  rw [e] at this
  have h5:mg "law"=aa (.ref a):=h5
  rw [h5] at this
  cases this;rfl
 subst ha
 obtain ⟨xs,rfl,hi,hl⟩:=OI Wm
 obtain ⟨v,rfl⟩: ∃v,V6=[v]:=by
  cases hrd with
  |cons r rs=>cases rs;exact ⟨_,rfl⟩
 have hv: ∃ns:List Int,ns.length<=63/\mV [] Ua.heap (.list (ns.map PV.int)) v:=by
  cases hrd with
  |cons r rs=>
   cases r with
   |list e1 e2 e3 e4=>
    obtain ⟨ns,e,q⟩:=JU hi e4
    refine ⟨ns,by rw [e,ah] at hl;exact hl,uK (λh=>nomatch h) ⟨_,e1,e2,_,by rw [e3]⟩ q⟩
 obtain ⟨ns,hn,r⟩:=hv
 refine ab (Mr B (Rn Y) (Qv Y) (FV Y) hn r) (λv' s' ⟨e,⟨h',tk,x⟩,g',k,hp,kk⟩=> ?_) λz z e=>e.elim
 subst e x
 refine ⟨.inl ⟨_,.bool ai,[],rfl,λz=>rfl,.bool ai,MG,λz=>⟨List.nodup_nil,λz h=>nomatch h⟩⟩,OL (Js kb) (FV Y) k hp kk,rfl,.of_eq hg⟩
theorem qx (walk:WalkO qV sK (λz z=>True) wf.says rw_wv0059_01.row.toRowW Cb.1 Cb.2 (λf vs=>PySem.call f vs)):rw_wv0059_01.Holds:=by
 refine holds_law Se λk1=> ?_
 refine holds_open (q:=qV) (loose:=sK) (Xt:=xT) (XP:=λz z=>True) (Yf:=wf.obs) (Ya:=wf.val) (YP:=wf.says) (d:=Cb.1) (kwd:=Cb.2) (N:=40000) Ma (Hook.of wf) (Hook.keeps wf) (λz z=>trivial) (λz z z z z=>trivial) ?_ ?_ ?_ (λs z=>recFacts_of (by rfl)) (by rfl) k1 ?_ ?_ ?_ walk
 ·kernel_rfl
 ·kernel_rfl
 ·kernel_rfl
 ·kernel_rfl
 ·exact ⟨rfl,rfl,rfl,rfl,rfl,by decide+kernel⟩
 ·exact ⟨[.list []],by decide+kernel,by decide+kernel⟩
end
end
end Mine
theorem PySem.Challenge.cw_wv0059_01_holds : PySem.Challenge.rw_wv0059_01.Holds := by
 refine Mine.qx Mine.Td
